import Derived.Test.Qxb6601608aL1
import Derived.Deep.LoopGhost
import Derived.OwnWalk
namespace Go.Proofs.Qxb6601608a
open Go.RowKit

theorem one_two (a b : Int) : ∀ u ∈ [Value.int .i64 a, Value.int .i64 b], u.oneCell' = true := by
  intro u hu
  simp at hu
  rcases hu with rfl | rfl <;> rfl
/-- what stands behind an append to the parts -/
theorem LS.afterP {B : Nat} {W w w0 w2 : World} {b : Nat} {s : ByteArray} {p : Nat} {vp vl x : Value} {P : List (Nat × Nat)} {L : List UInt8} (h : LS B W w b s p vp vl x P L) (h0 : Below w.heap.size w w0) (hg : w0.grownBy w2 vp.ownBlock) :
    ((∀ k, k < w.heap.size → some k ≠ vp.ownBlock → w2.heap[k]? = w.heap[k]?) ∧ w2.os = w.os ∧ w2.tape = w.tape ∧ w2.output = w.output ∧ w.heap.size ≤ w2.heap.size) ∧ w2.cell? ⟨b, 2, none⟩ = some vp ∧ w2.frozen? ⟨b, 2, none⟩ = false := by
  have hk : ∀ k, k < w.heap.size → some k ≠ vp.ownBlock → w2.heap[k]? = w.heap[k]? := fun k hk hne => (hg.block k (Nat.lt_of_lt_of_le hk h0.size) hne).trans (h0.block k hk)
  have hb := hk b h.row.lt (Ne.symm (own_ne h.row h.pa (by decide)))
  exact ⟨⟨hk, hg.os.trans h0.os, hg.tape.trans h0.tape, hg.output.trans h0.output, Nat.le_trans h0.size hg.size⟩, (World.cell?_of_block (a := ⟨b, 2, none⟩) hb).trans h.cells.2.2.1, (World.frozen?_of_block (a := ⟨b, 2, none⟩) hb).trans h.cells.2.2.2.2.2.1⟩

theorem LS.afterL {B : Nat} {W w w0 w2 : World} {b : Nat} {s : ByteArray} {p : Nat} {vp vl x : Value} {P : List (Nat × Nat)} {L : List UInt8} (h : LS B W w b s p vp vl x P L) (h0 : Below w.heap.size w w0) (hg : w0.grownBy w2 vl.ownBlock) :
    ((∀ k, k < w.heap.size → some k ≠ vl.ownBlock → w2.heap[k]? = w.heap[k]?) ∧ w2.os = w.os ∧ w2.tape = w.tape ∧ w2.output = w.output ∧ w.heap.size ≤ w2.heap.size) ∧ w2.cell? ⟨b, 3, none⟩ = some vl ∧ w2.frozen? ⟨b, 3, none⟩ = false := by
  have hk : ∀ k, k < w.heap.size → some k ≠ vl.ownBlock → w2.heap[k]? = w.heap[k]? := fun k hk hne => (hg.block k (Nat.lt_of_lt_of_le hk h0.size) hne).trans (h0.block k hk)
  have hb := hk b h.row.lt (Ne.symm (own_ne h.row h.li (by decide)))
  exact ⟨⟨hk, hg.os.trans h0.os, hg.tape.trans h0.tape, hg.output.trans h0.output, Nat.le_trans h0.size hg.size⟩, (World.cell?_of_block (a := ⟨b, 3, none⟩) hb).trans h.cells.2.2.2.1, (World.frozen?_of_block (a := ⟨b, 3, none⟩) hb).trans h.cells.2.2.2.2.2.2.1⟩

theorem own_shape {w : World} {base e size : Nat} {v : Value} {n : Nat} {xs : List Value} (h : w.ownsRow base e size v n xs) : ∃ a c, v = .slice a n c := by
  rcases h.2 with ⟨rfl, h0⟩ | ⟨g, cap, _, rfl, _⟩
  · exact ⟨none, 0, by rw [h0]⟩
  · exact ⟨_, cap, rfl⟩
theorem addr_add (g j : Nat) : (⟨g, 0, none⟩ : Addr).add j = ⟨g, j, none⟩ := by
  unfold Addr.add
  split <;> simp_all
theorem conv_nil (w : World) : (convert 28 9 (.slice none 0 0)).run Try.prog w = .ok (.string ⟨#[]⟩) w := by
  rw [run_convert_bytes_string w 28 9 5 none 0 0 Try.underlying28 Try.underlying5 Try.underlying9]
  rfl

set_option maxRecDepth 100000 in
set_option maxHeartbeats 4000000 in
theorem logicalLine_any (s : ByteArray) (b p B : Nat) (vl x : Value) (n0 : Nat) (xs0 : List Value) (w : World) (hs : s.size ≤ 1048576) (hp : p ≤ s.size) (hb0 : B ≤ b) (hBw : B ≤ w.heap.size)
    (hrow : w.rowIs b 46 5 (psr s p (.slice none 0 0) vl x)) (hli : w.ownsRow B 5 1 vl n0 xs0) :
    Calls Try.prog 32 #[.pointer (some ⟨b, 0, none⟩)] w fun e w' => ∃ D q vp vl', lls s (s.size + 1) p = (D, q) ∧ e = .returned (.string (if D.length = 1 then s.extract p (D.getD 0 (0, 0)).2 else ⟨(cat s D).toArray⟩)) ∧
      LS B w w' b s q vp vl' x (pcs 0 D) (if D.length = 1 then [] else cat s D) := by
  obtain ⟨vl0, hv1, hv2⟩ : ∃ vl0, (vl = .slice none 0 0 ∧ vl0 = .slice none 0 0 ∨ ∃ g cap, vl = .slice (some ⟨g, 0, none⟩) n0 cap ∧ vl0 = .slice (some ⟨g, 0, none⟩) 0 cap ∧ n0 ≤ cap) ∧ w.ownsRow B 5 1 vl0 0 [] := by
    rcases hli.2 with ⟨rfl, _⟩ | ⟨g, cap, cur, rfl, h1, h2, h3, h4, h5, h6⟩
    · exact ⟨_, .inl ⟨rfl, rfl⟩, World.ownsRow_nil _ _ _ _⟩
    · exact ⟨_, .inr ⟨g, cap, rfl, rfl, h3⟩, by simp, .inr ⟨g, cap, cur, rfl, h1, h2, Nat.zero_le _, h4, h5, by simp⟩⟩
  have hst : LS B w (((w.setCell ⟨b, 2, none⟩ (.slice none 0 0)).setCell ⟨b, 3, none⟩ vl0).drew) b s p (.slice none 0 0) vl0 x [] [] := by
    refine ⟨(((hrow.set 2 _).set 3 _).congr (fun i hi => by match i, hi with | 0, _ => rfl | 1, _ => rfl | 2, _ => rfl | 3, _ => rfl | 4, _ => rfl)), World.ownsRow_nil _ _ _ _, own_block hv2 (fun k hk => ?_), hb0, (((Below.refl _ _).setCell hb0 _).setCell hb0 _).drew, hBw⟩
    have hne : k ≠ b := fun e => own_ne hrow hv2 (by decide) (by rw [hk, e])
    exact (Below.heap_setCell _ _ _ _ hne).trans (Below.heap_setCell _ _ _ _ hne)
  have x0 : w.cell? ⟨b, 0, none⟩ = some (.string s) := hrow.cell (i := 0) (by omega)
  have x1 : w.cell? ⟨b, 1, none⟩ = some (.int .i64 p) := hrow.cell (i := 1) (by omega)
  have x2 : w.cell? ⟨b, 2, none⟩ = some (.slice none 0 0) := hrow.cell (i := 2) (by omega)
  have x3 : w.cell? ⟨b, 3, none⟩ = some vl := hrow.cell (i := 3) (by omega)
  have y2 := hrow.frozen 2
  have y3 := hrow.frozen 3
  have hlt := hrow.lt
  have HST := hide hst
  clear hst hli hrow hv2
  go_enter Try.func32, Try.ntmps32
  go_upto_region 1 with (fail)
  go_cut [2] (fun t2 wc => LS B w wc b s p (.slice none 0 0) vl0 x [] [])
  case first =>
    rcases hv1 with ⟨rfl, rfl⟩ | ⟨g, cap, rfl, rfl, hcap⟩
    · go_region
      go_wp2
      go_meet
      exact HST.out
    · go_region
      go_wp2
      go_meet
      exact HST.out
  case rest =>
    have HST1 := hide hcut
    clear hcut HST x0 x1 x2 x3 y2 y3 hlt hv1
    go_wp2
    go_loopg [2, 3, 4, 5] (s.size + 1) (fun g _ _ _ _ wx => ∃ (st : Nat) (D : List (Nat × Nat)) (vp vl1 : Value), st ≤ s.size ∧ s.size < st + g ∧ D.length + p ≤ st ∧ len D + p ≤ st ∧ (D = [] → st = p) ∧ Fits s D ∧ Upto s p D g st ∧ LS B w wx b s st vp vl1 x (pcs 0 D) (cat s D))
    case atStart => exact ⟨p, [], _, _, hp, by omega, by simp, by simp [len], fun _ => rfl, Fits.nil s, rfl, HST1.out⟩
    case round =>
      obtain ⟨st, D, vp, vl1, hst1, hst2, hD1, hD2, hD3, hfit, hup, hLS⟩ := hrel
      obtain ⟨gg, rfl⟩ : ∃ gg, gk = gg + 1 := ⟨gk - 1, by omega⟩
      clear HST1
      obtain ⟨e, he⟩ : ∃ e, lineE s st = e := ⟨_, rfl⟩
      have hE1 := lineE_le (s := s) hst1
      have hE2 := lineE_ge s st
      rw [he] at hE1 hE2
      have hcl := cat_length hfit
      have hpl := pcs_length D 0
      have HF := hide hfit
      have HU := hide hup
      have HD3 := hide hD3
      have HCL := hide hcl
      have HPL := hide hpl
      obtain ⟨al, cl, rfl, hal⟩ : ∃ a c, vl1 = .slice a (len D) c ∧ (Value.slice a (len D) c).ownBlock = (Value.slice a (len D) c).ownBlock := by
        have h := hLS.li
        rw [hcl] at h
        rcases h.2 with ⟨rfl, h0⟩ | ⟨g, cap, _, rfl, _⟩
        · exact ⟨none, 0, by rw [h0], rfl⟩
        · exact ⟨_, cap, rfl, rfl⟩
      clear hal
      obtain ⟨ap, cp, rfl⟩ : ∃ a c, vp = .slice a D.length c := by
        have h := hLS.pa
        rw [hpl] at h
        rcases h.2 with ⟨rfl, h0⟩ | ⟨g, cap, _, rfl, _⟩
        · exact ⟨none, 0, by rw [h0]⟩
        · exact ⟨_, cap, rfl⟩
      have HL := hide hLS
      have hHL : ∀ wx, Calls Try.prog 37 #[.string (s.extract st s.size)] wx fun e' w' => e' = .returned (.int .i64 ((e : Int) - st)) ∧ Below wx.heap.size wx w' := fun wx => by
        have := lineLength_at s st wx (by omega) hst1
        rw [he] at this
        exact this
      have HLL := hide hHL
      have HE := hide he
      clear hfit hup hD3 hcl hpl hLS hHL he
      obtain ⟨x0, x1, x2, x3, y1, y2, y3, hlt⟩ := HL.out.cells
      go_upto_region 4 with (go_at_call 37; refine (HLL.out _).mono ?_; rintro e' w1 ⟨rfl, hb1⟩; have HB1 := hide hb1; clear hb1)
      rw [show (st : Int) + ((e : Int) - (st : Int)) = (e : Int) by omega]
      have HL1 := hide (HL.out.keep HB1.out)
      clear x0 x1 x2 x3 y1 y2 y3 hlt HL HB1
      obtain ⟨x0, x1, x2, x3, y1, y2, y3, hlt⟩ := HL1.out.cells
      have hbw : B ≤ w1.heap.size := Nat.le_trans HL1.out.bW HL1.out.bel.size
      have hown1 : w1.ownsRow B 51 2 (.slice ap D.length cp) D.length (pcells (pcs 0 D)) := by have h := HL1.out.pa; rw [HPL.out] at h; exact h
      have HO1 := hide hown1
      clear hown1
      go_cut [] (fun wc => ∃ g1 cap1, LS B w wc b s st (.slice (some ⟨g1, 0, none⟩) (D.length + 1) cap1) (.slice al (len D) cl) x (pcs 0 D ++ [(len D, st)]) (cat s D))
      case first =>
        obtain ⟨i0, hi0, hz0, hz1, hz2⟩ := info_parts info51
        go_region_law (refine step_append_lies _ rfl (.tmp 39) (.tmp 47) 44 rfl B 51 i0 (.agg #[.int .i64 0, .int .i64 0]) 2 16 Try.underlying44 hi0 hz0 hz1 hz2 rfl (by decide) (.slice ap D.length cp) D.length (pcells (pcs 0 D)) (by simp [Act.eval]) (by exact HO1.out.alloc _) ⟨w1.heap.size, 0, none⟩ 1 1 [.int .i64 (len D : Nat), .int .i64 (st : Nat)] (by simp [Act.eval]) rfl (by exact World.news_of_block (cs := #[.int .i64 (len D : Nat), .int .i64 (st : Nat)]) (by exact heap_alloc_new w1 _)) (by exact one_two _ _) (by omega) (by unfold maxLen; omega) (by omega) (by simp; omega) _ rfl ?_; intro g1 cap1 w2 hown2 hgrow2 hat2 hlt2; obtain ⟨hz5, hz6, hz7⟩ := HL1.out.afterP (by first | exact ((Below.refl _ _).alloc (Nat.le_refl _) _).drew | exact ((Below.refl _ _).alloc (Nat.le_refl _) _)) hgrow2; have HZ := hide hz5; have HN := hide hown2; clear hz5 hown2 hgrow2 hat2)
        all_goals (go_wp2; go_meet; exact ⟨_, _, HL1.out.appP (y := (len D, st)) (by rw [HPL.out]; exact HN.out) HZ.out.1 HZ.out.2.1 HZ.out.2.2.1 HZ.out.2.2.2.1 HZ.out.2.2.2.2⟩)
      case rest =>
        obtain ⟨g1, cap1, hLS2⟩ := hcut
        have HL2 := hide hLS2
        clear hLS2 x0 x1 x2 x3 y1 y2 y3 hlt hbw HL1 HO1 HLL
        obtain ⟨x0, x1, x2, x3, y1, y2, y3, hlt⟩ := HL2.out.cells
        have HSL := hide (fun wx => skipLineEnd_any s e wx (by omega) hE1)
        go_upto_region 6 with (go_at_call 39; refine (HSL.out _).mono ?_; rintro e' w' ⟨rfl, hw⟩; obtain rfl := hw.symm)
        clear HSL
        obtain ⟨q, hq⟩ : ∃ q, skipL s e = q := ⟨_, rfl⟩
        rw [hq]
        have HQ := hide hq
        clear hq
        obtain ⟨W3, hW3⟩ : ∃ W3, W3 = wc.setCell ⟨b, 1, none⟩ (.int .i64 (q : Nat)) := ⟨_, rfl⟩
        rw [← hW3]
        have HL3 : Hid (LS B w W3 b s q (.slice (some ⟨g1, 0, none⟩) (D.length + 1) cap1) (.slice al (len D) cl) x (pcs 0 D ++ [(len D, st)]) (cat s D)) := by rw [hW3]; exact HL2.out.setPos q
        clear x0 x1 x2 x3 y1 y2 y3 hlt HL2 hW3
        obtain ⟨x0, x1, x2, x3, y1, y2, y3, hlt⟩ := HL3.out.cells
        obtain ⟨t, ht⟩ : ∃ t, trb s st e = t := ⟨_, rfl⟩
        have htl := trb_le s st e
        rw [ht] at htl
        have hHT : ∀ wx, Calls Try.prog 40 #[.string (s.extract st e)] wx fun o w' => o = .returned (.int .i64 (t : Nat)) ∧ w' = wx := fun wx => by
          have hsz := size_extract s st e hE1
          have h := trailing_any (s.extract st e) wx (by unfold maxLen; omega)
          rw [hsz, trb_extract s st e hE2 hE1, ht] at h
          exact h
        have HT := hide ht
        have HHT := hide hHT
        clear ht hHT
        have hq1 : q ≤ s.size := by rw [← HQ.out]; exact skipL_le
        by_cases ht1 : t % 2 = 1
        · have hr : Int.tmod (t : Int) 2 = 1 := by rw [Int.tmod_eq_emod_of_nonneg (by omega)]; omega
          have hgo : e ≤ q := by
            by_cases hee : e < s.size
            · have := skipL_gt hee; rw [HQ.out] at this; omega
            · have := skipL_out (s := s) (e := e) (by omega); rw [HQ.out] at this; omega
          obtain ⟨e1, rfl⟩ : ∃ e1, e = e1 + 1 := ⟨e - 1, by omega⟩
          have hst3 : (st : Int) ≤ (e1 : Int) := by omega
          have hst4 : (e1 : Int) ≤ (s.size : Int) := by omega
          have hwe : IntKind.i64.wrap (e1 : Int) = (e1 : Int) := wrap_small _ (by omega) (by omega)
          go_upto_region 12 with (go_at_call 40; refine (HHT.out _).mono ?_; rintro e' w' ⟨rfl, hw⟩; obtain rfl := hw.symm)
          clear HHT
          have HSZ := hide (size_extract s st e1 (by omega))
          have HO3 : Hid (W3.ownsRow B 5 1 (.slice al (len D) cl) (len D) (bcells (cat s D))) := by have h := HL3.out.li; rw [HCL.out] at h; exact h
          have hbw : B ≤ W3.heap.size := Nat.le_trans HL3.out.bW HL3.out.bel.size
          go_cut [] (fun wd => ∃ vl', LS B w wd b s q (.slice (some ⟨g1, 0, none⟩) (D.length + 1) cap1) vl' x (pcs 0 D ++ [(len D, st)]) (cat s D ++ seg s st e1))
          case first =>
            obtain ⟨i0, hi0, hz0, hz1, hz2⟩ := info_parts info5
            go_region_law (refine step_append_string _ rfl (.tmp 113) (.tmp 121) 28 9 rfl B 5 i0 Try.underlying28 Try.underlying9 hi0 hz0 hz1 hz2 (.slice al (len D) cl) (len D) (bcells (cat s D)) (by simp [Act.eval, Act.put]) (by exact HO3.out) (s.extract st e1) (by simp [Act.eval, Act.put]) (by rw [HSZ.out]; unfold maxLen; omega) (by rw [HSZ.out]; omega) (by simp; omega) ?_; intro v4 w4 hown4 hgrow4; rw [HSZ.out] at hown4; obtain ⟨a4, c4, rfl⟩ := own_shape hown4; obtain ⟨hz5, hz6, hz7⟩ := HL3.out.afterL (by first | exact Below.refl _ _ | exact (Below.refl _ _).drew) hgrow4; have HZ := hide hz5; have HN := hide hown4; clear hz5 hown4 hgrow4)
            all_goals (go_wp2; go_meet; exact ⟨_, HL3.out.appL (t := s.extract st e1) rfl (by rw [HCL.out, HSZ.out]; exact HN.out) HZ.out.1 HZ.out.2.1 HZ.out.2.2.1 HZ.out.2.2.2.1 HZ.out.2.2.2.2⟩)
          case rest =>
            obtain ⟨vl4, hLS4⟩ := hcut
            have HL4 := hide hLS4
            clear hLS4 x0 x1 x2 x3 y1 y2 y3 hlt hbw HL3 HO3 HSZ
            obtain ⟨x0, x1, x2, x3, y1, y2, y3, hlt⟩ := HL4.out.cells
            have hs' : s.size ≤ maxLen := by unfold maxLen; omega
            have HSP := hide (fun wx => skipSpace_any s q wx hs' hq1)
            clear hs'
            have hrl : ∀ wz, LS B w wz b s (skipS s q) (.slice (some ⟨g1, 0, none⟩) (D.length + 1) cap1) vl4 x (pcs 0 D ++ [(len D, st)]) (cat s D ++ seg s st e1) → ∃ (st : Nat) (D : List (Nat × Nat)) (vp vl1 : Value), st ≤ s.size ∧ s.size < st + gg ∧ D.length + p ≤ st ∧ len D + p ≤ st ∧ (D = [] → st = p) ∧ Fits s D ∧ Upto s p D gg st ∧ LS B w wz b s st vp vl1 x (pcs 0 D) (cat s D) := fun wz h5 => by
              have hsk := skipS_ge s q
              refine ⟨skipS s q, D ++ [(st, e1)], .slice (some ⟨g1, 0, none⟩) (D.length + 1) cap1, vl4, skipS_le hq1, by omega, by rw [List.length_append, List.length_singleton]; omega, by rw [len_snoc]; simp only; omega, fun h => by simp at h, HF.out.snoc (by simp only; omega), ?_, ?_⟩
              · have h := HU.out.on HE.out (by rw [HT.out]; exact ht1)
                rw [HQ.out] at h
                simpa using h
              · rw [pcs_snoc, cat_snoc, Nat.zero_add]
                exact h5
            have HRL := hide hrl
            clear hrl
            go_upto_region 13 with (fail)
            go_region_with (go_at_call 36; refine (HSP.out _).mono ?_; rintro e' w' ⟨rfl, rfl⟩)
            all_goals (go_wp2; (go_roundg gg) <;> first | omega | exact HRL.out _ ((HL4.out.setPos _).keep (Below.refl _ _).drew))
        · have hr : Int.tmod (t : Int) 2 = 0 := by rw [Int.tmod_eq_emod_of_nonneg (by omega)]; omega
          have hfin := HU.out.off HE.out (by rw [HT.out]; exact ht1)
          rw [HQ.out] at hfin
          have HFIN := hide hfin
          clear hfin
          by_cases hD0 : D = []
          · subst hD0
            obtain rfl := HD3.out rfl
            go_wp2_with (go_at_call 40; refine (HHT.out _).mono ?_; rintro e' w' ⟨rfl, hw⟩; obtain rfl := hw.symm)
            go_ret
            exact ⟨[(st, e)], q, _, _, by simpa using HFIN.out, rfl, by simpa [pcs, len, cat] using HL3.out⟩
          · have hDl : D.length ≠ 0 := fun h => hD0 (List.length_eq_zero_iff.1 h)
            have hDi : ((D.length : Int) + 1 == 1) = false := by simp; omega
            have HDL := hide hDl
            clear hD0
            go_upto_region 10 with (go_at_call 40; refine (HHT.out _).mono ?_; rintro e' w' ⟨rfl, hw⟩; obtain rfl := hw.symm)
            clear HHT
            have HSZ := hide (size_extract s st e hE1)
            have HO3 : Hid (W3.ownsRow B 5 1 (.slice al (len D) cl) (len D) (bcells (cat s D))) := by have h := HL3.out.li; rw [HCL.out] at h; exact h
            have hbw : B ≤ W3.heap.size := Nat.le_trans HL3.out.bW HL3.out.bel.size
            go_cut [] (fun wd => ∃ vl', LS B w wd b s q (.slice (some ⟨g1, 0, none⟩) (D.length + 1) cap1) vl' x (pcs 0 D ++ [(len D, st)]) (cat s D ++ seg s st e))
            case first =>
              obtain ⟨i0, hi0, hz0, hz1, hz2⟩ := info_parts info5
              go_region_law (refine step_append_string _ rfl (.tmp 93) (.tmp 100) 28 9 rfl B 5 i0 Try.underlying28 Try.underlying9 hi0 hz0 hz1 hz2 (.slice al (len D) cl) (len D) (bcells (cat s D)) (by simp [Act.eval, Act.put]) (by exact HO3.out) (s.extract st e) (by simp [Act.eval, Act.put]) (by rw [HSZ.out]; unfold maxLen; omega) (by rw [HSZ.out]; omega) (by simp; omega) ?_; intro v4 w4 hown4 hgrow4; rw [HSZ.out] at hown4; obtain ⟨a4, c4, rfl⟩ := own_shape hown4; obtain ⟨hz5, hz6, hz7⟩ := HL3.out.afterL (by first | exact Below.refl _ _ | exact (Below.refl _ _).drew) hgrow4; have HZ := hide hz5; have HN := hide hown4; clear hz5 hown4 hgrow4)
              all_goals (go_wp2; go_meet; exact ⟨_, HL3.out.appL (t := s.extract st e) rfl (by rw [HCL.out, HSZ.out]; exact HN.out) HZ.out.1 HZ.out.2.1 HZ.out.2.2.1 HZ.out.2.2.2.1 HZ.out.2.2.2.2⟩)
            case rest =>
              obtain ⟨vl4, hLS4⟩ := hcut
              obtain ⟨L4, hL4⟩ : ∃ L4, cat s D ++ seg s st e = L4 := ⟨_, rfl⟩
              rw [hL4] at hLS4
              have HL4 := hide hLS4
              have HLL4 := hide hL4
              clear hLS4 hL4 x0 x1 x2 x3 y1 y2 y3 hlt hbw HL3 HO3 HSZ
              have hend : ∀ (wz : World) (vz : Value), LS B w wz b s q (.slice (some ⟨g1, 0, none⟩) (D.length + 1) cap1) vz x (pcs 0 D ++ [(len D, st)]) L4 → ∃ D q vp vl', lls s (s.size + 1) p = (D, q) ∧ Ending.returned (.string ⟨L4.toArray⟩) = .returned (.string (if D.length = 1 then s.extract p (D.getD 0 (0, 0)).2 else ⟨(cat s D).toArray⟩)) ∧
                  LS B w wz b s q vp vl' x (pcs 0 D) (if D.length = 1 then [] else cat s D) := fun wz vz h => by
                have hl : ¬ (D ++ [(st, e)]).length = 1 := by have h7 := HDL.out; rw [List.length_append, List.length_singleton]; omega
                refine ⟨D ++ [(st, e)], q, .slice (some ⟨g1, 0, none⟩) (D.length + 1) cap1, vz, HFIN.out, ?_, ?_⟩
                · rw [if_neg hl, cat_snoc, HLL4.out]
                · rw [if_neg hl, cat_snoc, HLL4.out, pcs_snoc, Nat.zero_add]; exact h
              have HEND := hide hend
              clear hend
              rcases HL4.out.li.2 with ⟨rfl, h0⟩ | ⟨g, cap, cur, rfl, _⟩
              · obtain rfl := List.length_eq_zero_iff.1 h0
                obtain ⟨x0, x1, x2, x3, y1, y2, y3, hlt⟩ := HL4.out.cells
                have hcv := conv_nil wc
                go_wp2
                go_ret
                exact HEND.out _ _ HL4.out
              · obtain ⟨x0, x1, x2, x3, y1, y2, y3, hlt⟩ := HL4.out.cells
                have hcv := run_convert_bytes_back (P := Try.prog) wc 28 9 5 ⟨g, 0, none⟩ cap L4 Try.underlying28 Try.underlying5 Try.underlying9 (fun j hj => by
                  rw [addr_add]
                  rw [HL4.out.li.cellAt j (by omega)]
                  simp [bcells, hj])
                go_wp2
                go_ret
                exact HEND.out _ _ HL4.out
end Go.Proofs.Qxb6601608a

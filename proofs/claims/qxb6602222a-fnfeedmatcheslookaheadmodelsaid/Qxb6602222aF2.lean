import Derived.Test.Qxb6602222aF1
namespace Go.Proofs.Qxb6602222a
open Go.RowKit

section
variable {f : Nat → Nat} {n : Nat} {p0 : Int} {k i : Nat} {ae ac cp : Bool} {out : List Int}
theorem fd_lf (h : i < n) (h1 : ac = true ∧ f i = 10) : fd f n p0 (k + 1) i ae ac cp out = fd f n p0 k (i + 1) ae false false (opt cp out (p0 + i + 1)) := by
  conv => lhs; unfold fd
  rw [if_pos h, if_pos h1]
theorem fd_cr (h : i < n) (h1 : ¬ (ac = true ∧ f i = 10)) (h2 : f i = 13) : fd f n p0 (k + 1) i ae ac cp out = fd f n p0 k (i + 1) (!ae) true ae (opt cp out (p0 + i)) := by
  conv => lhs; unfold fd
  rw [if_pos h, if_neg h1, if_pos h2]
theorem fd_nl (h : i < n) (h1 : ¬ (ac = true ∧ f i = 10)) (h2 : f i = 10) : fd f n p0 (k + 1) i ae ac cp out = fd f n p0 k (i + 1) (!ae) false false (opt ae (opt cp out (p0 + i)) (p0 + i + 1)) := by
  conv => lhs; unfold fd
  rw [if_pos h, if_neg h1, if_neg (by omega), if_pos h2]
theorem fd_txt (h : i < n) (h1 : f i ≠ 10) (h2 : f i ≠ 13) : fd f n p0 (k + 1) i ae ac cp out = fd f n p0 k (cE f n (i + 1)) false false false (opt cp out (p0 + i)) := by
  conv => lhs; unfold fd
  rw [if_pos h, if_neg (fun x => h1 x.2), if_neg h2, if_neg h1]
end
theorem opt_len (b : Bool) (out : List Int) (x : Int) : (opt b out x).length ≤ out.length + 1 := by cases b <;> simp [opt]
theorem opt_app (b : Bool) (E out : List Int) (x : Int) : E ++ opt b out x = opt b (E ++ out) x := by cases b <;> simp [opt]

theorem FS.cast {W w : World} {v0 v : Value} {fb q g n base : Nat} {f : Nat → Nat} {p cr : Int} {ae ac cp : Bool} {E : List Int} (h : FS W v0 w fb q g n base f p ae ac cp cr v E) {p' : Int} {E' : List Int} (hp : p = p') (hE : E = E') : FS W v0 w fb q g n base f p' ae ac cp cr v E' := hp ▸ hE ▸ h

theorem oneInt (x : Int) : ∀ u ∈ ([.int .i64 x] : List Value), u.oneCell' = true := by
  intro u hu; simp at hu; subst hu; rfl

set_option maxRecDepth 100000 in
set_option maxHeartbeats 8000000 in
theorem feed_row (fb g n base : Nat) (f : Nat → Nat) (p0 : Int) (ae0 ac0 cp0 : Bool) (v0 : Value) (E0 : List Int) (W : World)
    (hn : n ≤ 1048576) (hE : E0.length ≤ 131072) (hp1 : -9223372036854775808 ≤ p0) (hp2 : p0 + n ≤ 9223372036854775807) (hf : ∀ j, f j < 256)
    (hfr : W.rowIs fb 44 4 (frm p0 ae0 ac0 cp0)) (hby : Bytes W g n f) (hfg : fb ≠ g) (hown : W.ownsRow base 2 1 v0 E0.length (ints E0)) (hob : ∀ k, v0.ownBlock = some k → k ≠ fb ∧ k ≠ g) (hbs : base ≤ W.heap.size) :
    Calls Try.prog 20 #[.pointer (some ⟨fb, 0, none⟩), .slice (some ⟨g, 0, none⟩) n n, v0] W fun e w' => ∃ ae ac cp out v, fd f n p0 (n + 1) 0 ae0 ac0 cp0 [] = (ae, ac, cp, out) ∧ e = .returned v ∧
      w'.rowIs fb 44 4 (frm (p0 + n) ae ac cp) ∧ w'.ownsRow base 2 1 v (E0 ++ out).length (ints (E0 ++ out)) ∧ Kept (fun k => k = fb ∨ v0.ownBlock = some k) W w' ∧ out.length ≤ 2 * n := by
  obtain ⟨i0, hi0, hz0, hz1, hz2⟩ := info_parts info2
  have hfl := hfr.lt
  have hgl := hby.lt
  have hst : FS W v0 (W.alloc (.cells #[.int .i64 (-1)] 3)) fb W.heap.size g n base f (p0 + ((0 : Nat) : Int)) ae0 ac0 cp0 (-1) v0 (E0 ++ []) := by
    rw [List.append_nil, show p0 + ((0 : Nat) : Int) = p0 by omega]
    refine ⟨hfr.alloc _, hby.alloc _, cell_new W (-1) g hgl 3, hown.alloc _, fun k hk => ⟨(hob k hk).1, ?_, (hob k hk).2⟩, by omega, hfg, Nat.le_refl _, by simp, ?_, .inl rfl, by simp; omega⟩
    · have := (hown.lt k hk).2; omega
    · exact (Kept.refl _ W).trans rfl rfl rfl (by simp) (fun k hk _ => Below.heap_alloc W _ k hk)
  have HST := hide hst
  clear hst hfr hby hown hob
  go_enter Try.func20, Try.ntmps20
  go_wp2
  go_loopg [2, 8, 9, 10] (n + 1) (fun gk t2 t8 _ _ wx => ∃ (i : Nat) (ae ac cp : Bool) (cr : Int) (v : Value) (out : List Int), i ≤ n ∧ n < i + gk ∧ t8 = .int .i64 i ∧ v = t2 ∧ FS W v0 wx fb W.heap.size g n base f (p0 + i) ae ac cp cr v (E0 ++ out) ∧ CRok f n i cr ∧ out.length ≤ 2 * i ∧ fd f n p0 (n + 1) 0 ae0 ac0 cp0 [] = fd f n p0 gk i ae ac cp out)
  case atStart => exact ⟨0, ae0, ac0, cp0, -1, v0, [], by omega, by omega, rfl, rfl, HST.out, .inl (by omega), by simp, rfl⟩
  case round =>
    obtain ⟨i, ae, ac, cp, cr, v, out, hi, hig, rfl, hv, hFS, hcr, hout, hfd⟩ := hrel
    subst hv
    have HF := hide hFS
    have HCR := hide hcr
    have HFD := hide hfd
    clear hFS hcr hfd HST
    obtain ⟨gg, rfl⟩ : ∃ gg, gk = gg + 1 := ⟨gk - 1, by omega⟩
    by_cases hlt : i < n
    · have hcb := HF.out.bys.cell hlt
      obtain ⟨x0, x1, x2, x3, y0, y1, y2, y3, hfl2⟩ := HF.out.cells
      have hb1 : -9223372036854775808 ≤ p0 + (i : Int) := by omega
      have hb2 : p0 + (i : Int) + 1 ≤ 9223372036854775807 := by omega
      have hlt2 : (i : Int) < (n : Int) := by omega
      by_cases hA : ac = true ∧ f i = 10
      · obtain ⟨rfl, h10⟩ := hA
        have n10 : (((f i : Nat) : Int) == 10) = true := by simp; omega
        have H10 := hide h10
        clear h10
        cases cp
        · go_wp2
          go_roundg gg
          case measure => omega
          case rel => exact ⟨i + 1, ae, false, false, cr, _, out, by omega, by omega, by go_num, rfl, by have h := (HF.out.setP _ (p0 + ((i + 1 : Nat) : Int)) (by rw [show p0 + ((i + 1 : Nat) : Int) = p0 + (i : Int) + 1 by omega])).setAc false; exact h, HCR.out.step hlt, by omega, by rw [HFD.out, fd_lf hlt ⟨rfl, H10.out⟩]; rfl⟩
        · go_upto_region 12 with (fail)
          obtain ⟨W2, hW2⟩ : ∃ W2, W2 = (((wr.setCell ⟨fb, 0, none⟩ (.int .i64 (p0 + (i : Int) + 1))).setCell ⟨fb, 2, none⟩ (.bool false)).setCell ⟨fb, 3, none⟩ (.bool false)) := ⟨_, rfl⟩
          rw [← hW2]
          have HF2 : Hid (FS W v0 W2 fb W.heap.size g n base f (p0 + (i : Int) + 1) ae false false cr v (E0 ++ out)) := by rw [hW2]; exact (((HF.out.setP _ (p0 + (i : Int) + 1) rfl).setAc false).setCp false)
          clear hW2 x0 x1 x2 x3 y0 y1 y2 y3 hfl2 hcb
          obtain ⟨x0, x1, x2, x3, y0, y1, y2, y3, hfl2⟩ := HF2.out.cells
          have hlen : (E0 ++ out).length + 1 ≤ 3000000 := by simp; omega
          have hbs2 := HF2.out.bs
          have hown2 := HF2.out.own.alloc (.cells #[.int .i64 (p0 + (i : Int) + 1)] 2)
          go_wp2_with (at_builtin; (refine wpList_append_own_at _ rfl _ _ 26 rfl base 2 i0 (.int .i64 0) 1 8 Try.underlying26 hi0 hz0 hz1 hz2 rfl (by decide) _ _ _ rfl hown2 ⟨W2.heap.size, 0, none⟩ 1 1 [.int .i64 (p0 + (i : Int) + 1)] rfl rfl (cell_one_new _ _ _) (oneInt _) (by unfold maxLen; omega) (by omega) (by simp; omega) ?_); intro v' w5 hown' hgrow hnil hloc)
          go_roundg gg
          case measure => omega
          case rel => exact ⟨i + 1, ae, false, false, cr, v', opt true out (p0 + (i : Int) + 1), by omega, by omega, by go_num, rfl, (HF2.out.app _ hown' hgrow hloc).cast (by omega) (by simp [opt]), HCR.out.step hlt, by have := opt_len true out (p0 + (i : Int) + 1); omega, by rw [HFD.out, fd_lf hlt ⟨rfl, H10.out⟩]⟩
      · have HA := hide hA
        clear hA
        go_upto_if 31 with (fail)
        go_cut [2] (fun t2 wc => v = t2 ∧ FS W v0 wc fb W.heap.size g n base f (p0 + (i : Int) + 1) ae false cp cr v (E0 ++ out))
        case first =>
          cases ac
          · go_wp2
            go_meet
            exact ⟨rfl, HF.out.setP _ _ rfl⟩
          · have h10' : f i ≠ 10 := fun e => HA.out ⟨rfl, e⟩
            have n10 : (((f i : Nat) : Int) == 10) = false := by simp; omega
            clear h10'
            go_wp2
            go_meet
            exact ⟨rfl, (HF.out.setP _ (p0 + (i : Int) + 1) rfl).setAc false⟩
        case rest =>
          obtain ⟨hv, hcut⟩ := hcut
          subst hv
          have HF1 := hide hcut
          clear hcut x0 x1 x2 x3 y0 y1 y2 y3 hfl2 hcb HF
          obtain ⟨x0, x1, x2, x3, y0, y1, y2, y3, hfl2⟩ := HF1.out.cells
          go_upto_if 54 with (fail)
          go_cut [2] (fun t2 wd => ∃ v', v' = t2 ∧ FS W v0 wd fb W.heap.size g n base f (p0 + (i : Int) + 1) ae false false cr v' (E0 ++ opt cp out (p0 + (i : Int))))
          case first =>
            cases cp
            · go_wp2
              go_meet
              exact ⟨v, rfl, HF1.out⟩
            · go_upto_region 15 with (fail)
              obtain ⟨W2, hW2⟩ : ∃ W2, W2 = (wc.setCell ⟨fb, 3, none⟩ (.bool false)) := ⟨_, rfl⟩
              rw [← hW2]
              have HF2 : Hid (FS W v0 W2 fb W.heap.size g n base f (p0 + (i : Int) + 1) ae false false cr v (E0 ++ out)) := by rw [hW2]; exact HF1.out.setCp false
              clear hW2 x0 x1 x2 x3 y0 y1 y2 y3 hfl2
              obtain ⟨x0, x1, x2, x3, y0, y1, y2, y3, hfl2⟩ := HF2.out.cells
              have hlen : (E0 ++ out).length + 1 ≤ 3000000 := by simp; omega
              have hbs2 := HF2.out.bs
              have hown2 := HF2.out.own.alloc (.cells #[.int .i64 (p0 + (i : Int))] 2)
              go_wp2_with (at_builtin; (refine wpList_append_own_at _ rfl _ _ 26 rfl base 2 i0 (.int .i64 0) 1 8 Try.underlying26 hi0 hz0 hz1 hz2 rfl (by decide) _ _ _ rfl hown2 ⟨W2.heap.size, 0, none⟩ 1 1 [.int .i64 (p0 + (i : Int))] rfl rfl (cell_one_new _ _ _) (oneInt _) (by unfold maxLen; omega) (by omega) (by simp; omega) ?_; intro v' w5 hown' hgrow hnil hloc))
              go_meet
              exact ⟨v', rfl, (HF2.out.app _ hown' hgrow hloc).cast rfl (by simp [opt])⟩
          case rest =>
            obtain ⟨vd, hvd, hFd⟩ := hcut
            subst hvd
            have HF2 := hide hFd
            clear hFd x0 x1 x2 x3 y0 y1 y2 y3 hfl2 HF1
            obtain ⟨x0, x1, x2, x3, y0, y1, y2, y3, hfl2⟩ := HF2.out.cells
            have hol := opt_len cp out (p0 + (i : Int))
            by_cases h13 : f i = 13
            · have m13 : (((f i : Nat) : Int) == 13) = true := by simp; omega
              have H13 := hide h13
              clear h13
              cases ae
              · go_wp2
                go_roundg gg
                case measure => omega
                case rel => exact ⟨i + 1, true, true, false, cr, vd, opt cp out (p0 + (i : Int)), by omega, by omega, by go_num, rfl, ((HF2.out.setAc true).setAe true).cast (by omega) rfl, HCR.out.step hlt, by omega, by rw [HFD.out, fd_cr hlt HA.out H13.out]; rfl⟩
              · go_wp2
                go_roundg gg
                case measure => omega
                case rel => exact ⟨i + 1, false, true, true, cr, vd, opt cp out (p0 + (i : Int)), by omega, by omega, by go_num, rfl, (((HF2.out.setAc true).setAe false).setCp true).cast (by omega) rfl, HCR.out.step hlt, by omega, by rw [HFD.out, fd_cr hlt HA.out H13.out]; rfl⟩
            · have m13 : (((f i : Nat) : Int) == 13) = false := by simp; omega
              by_cases h10 : f i = 10
              · have m10 : (((f i : Nat) : Int) == 10) = true := by simp; omega
                have H10 := hide h10
                clear h10 h13
                cases ae
                · go_wp2
                  go_roundg gg
                  case measure => omega
                  case rel => exact ⟨i + 1, true, false, false, cr, vd, opt cp out (p0 + (i : Int)), by omega, by omega, by go_num, rfl, (HF2.out.setAe true).cast (by omega) rfl, HCR.out.step hlt, by omega, by rw [HFD.out, fd_nl hlt HA.out H10.out]; rfl⟩
                · go_upto_region 30 with (fail)
                  obtain ⟨W2, hW2⟩ : ∃ W2, W2 = (wc.setCell ⟨fb, 1, none⟩ (.bool false)) := ⟨_, rfl⟩
                  rw [← hW2]
                  have HF3 : Hid (FS W v0 W2 fb W.heap.size g n base f (p0 + (i : Int) + 1) false false false cr vd (E0 ++ opt cp out (p0 + (i : Int)))) := by rw [hW2]; exact HF2.out.setAe false
                  clear hW2 x0 x1 x2 x3 y0 y1 y2 y3 hfl2
                  obtain ⟨x0, x1, x2, x3, y0, y1, y2, y3, hfl2⟩ := HF3.out.cells
                  have hlen : (E0 ++ opt cp out (p0 + (i : Int))).length + 1 ≤ 3000000 := by rw [List.length_append]; omega
                  have hbs2 := HF3.out.bs
                  have hown2 := HF3.out.own.alloc (.cells #[.int .i64 (p0 + (i : Int) + 1)] 2)
                  go_wp2_with (at_builtin; (refine wpList_append_own_at _ rfl _ _ 26 rfl base 2 i0 (.int .i64 0) 1 8 Try.underlying26 hi0 hz0 hz1 hz2 rfl (by decide) _ _ _ rfl hown2 ⟨W2.heap.size, 0, none⟩ 1 1 [.int .i64 (p0 + (i : Int) + 1)] rfl rfl (cell_one_new _ _ _) (oneInt _) (by unfold maxLen; omega) (by omega) (by simp; omega) ?_; intro v' w5 hown' hgrow hnil hloc))
                  go_roundg gg
                  case measure => omega
                  case rel => exact ⟨i + 1, false, false, false, cr, v', opt true (opt cp out (p0 + (i : Int))) (p0 + (i : Int) + 1), by omega, by omega, by go_num, rfl, (HF3.out.app _ hown' hgrow hloc).cast (by omega) (by simp [opt]), HCR.out.step hlt, by have := opt_len true (opt cp out (p0 + (i : Int))) (p0 + (i : Int) + 1); omega, by rw [HFD.out, fd_nl hlt HA.out H10.out]; rfl⟩
              · have m10 : (((f i : Nat) : Int) == 10) = false := by simp; omega
                have h1 := cE_ge f n (i + 1)
                have h2 := cE_le (f := f) (n := n) (i := i + 1) (by omega)
                have hLE : ∀ wx c, Bytes wx g n f → Cell wx W.heap.size g c → CRok f n (i + 1) c → Calls Try.prog 28 #[.slice (some ⟨g, 0, none⟩) n n, .int .i64 ((i : Int) + 1), .pointer (some ⟨W.heap.size, 0, none⟩)] wx fun e w' => e = .returned (.int .i64 (cE f n (i + 1) : Nat)) ∧ Cell w' W.heap.size g (c13 f n (i + 1) : Nat) ∧ Onl W.heap.size wx w' := fun wx c hb hc hk =>
                  lineEnd_row g n W.heap.size (i + 1) c f wx hn (by omega) hb hf hc hk
                have HLE := hide hLE
                clear hLE
                have HX := hide (HF2.out.setAe false)
                go_wp2_with (go_at_call 28; refine (HLE.out _ cr (by exact HX.out.bys) (by exact HX.out.ce) (HCR.out.step hlt)).mono ?_; rintro e w5 ⟨rfl, hc5, ho5⟩; have HF5 := hide (HX.out.line hc5 ho5); obtain ⟨z0, z1, z2, z3, t0, t1, t2, t3, hfl5⟩ := HF5.out.cells; clear hc5 ho5)
                go_roundg gg
                case measure => omega
                case rel => exact ⟨cE f n (i + 1), false, false, false, (c13 f n (i + 1) : Nat), vd, opt cp out (p0 + (i : Int)), h2, by omega, by go_num, rfl, (HF5.out.setP _ _ rfl).cast (by omega) rfl, CRok.next (by omega), by omega, by rw [HFD.out, fd_txt hlt h10 h13]⟩
    · obtain rfl : i = n := by omega
      go_wp2
      go_ret
      exact ⟨ae, ac, cp, out, v, by rw [HFD.out, fd_end (by omega)], rfl, HF.out.fr, HF.out.own, HF.out.kept, hout⟩
end Go.Proofs.Qxb6602222a

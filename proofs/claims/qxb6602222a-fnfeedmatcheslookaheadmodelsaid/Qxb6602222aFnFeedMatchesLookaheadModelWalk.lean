import Derived.Test.Qxb6602222aF6
namespace Go.Proofs.Qxb6602222a.fnFeedMatchesLookaheadModel
open Go.RowKit
set_option linter.unusedVariables false

theorem own_form4 {w : World} {base : Nat} {v : Value} {E : List Int} {n : Nat} (hn : E.length = n) (h : w.ownsRow base 2 1 v E.length (ints E)) : ∃ a c, v = .slice a n c ∧ ∀ i, i < n → ∃ g, a = some ⟨g, 0, none⟩ ∧ w.cell? ⟨g, i, none⟩ = some (.int .i64 (E.getD i 0)) := by
  subst hn
  exact own_form3 h

set_option maxRecDepth 100000 in
set_option maxHeartbeats 8000000 in
theorem walk (a0 : Int) (a1 : Bool) (a2 : Bool) (a3 : Bool) (a4 : Option Addr) (len4 cap4 : Nat) (z4 : List Int) (a5 : Option Addr) (len5 cap5 : Nat) (z5 : List Int) (w : World) (w0 : (Lit.int .i64 a0).wf = true) (w4 : IsRow .u8 w a4 len4 cap4 z4) (w5 : IsRow .i64 w a5 len5 cap5 z5) :
    Calls Try.prog 6 #[.int .i64 a0, .bool a1, .bool a2, .bool a3, .slice a4 len4 cap4, .slice a5 len5 cap5] w fun e w' => e = .returned (.bool true) ∧ Below w.heap.size w w' := by
  have hl4 : len4 ≤ maxLen := by
    rcases w4 with ⟨_, rfl, _⟩ | ⟨_, _, h1, h2, _⟩
    · exact Nat.zero_le _
    · omega
  have hl5 : len5 ≤ maxLen := by
    rcases w5 with ⟨_, rfl, _⟩ | ⟨_, _, h1, h2, _⟩
    · exact Nat.zero_le _
    · omega
  have hz5 : (z5.take len5).length = len5 := by
    rcases w5 with ⟨_, rfl, _, rfl⟩ | ⟨_, _, h1, h2, h3, _⟩
    · rfl
    · simp; omega
  have hb0 : -9223372036854775808 ≤ a0 ∧ a0 ≤ 9223372036854775807 := by
    simp [Lit.wf, IntKind.min, IntKind.max, IntKind.bits, IntKind.signed] at w0
    omega
  obtain ⟨hp1, hp2⟩ := hb0
  have hZ := fun wx => zz17 a0 a1 a2 a3 a4 a5 len4 cap4 len5 cap5 wx hl4 hl5
  have HZ := hide hZ
  clear hZ
  unfold maxLen at hl4 hl5
  have W4 := hide w4
  have W5 := hide w5
  have HZ5 := hide hz5
  clear w0 w4 w5 hz5
  by_cases h1 : len4 + len5 ≤ 1048576
  · rw [decide_eq_true h1] at HZ
    have h1' : ¬ (1048576 : Int) < (len4 : Int) := by omega
    by_cases h2 : len5 ≤ 131072
    · have h2' : ¬ (131072 : Int) < (len5 : Int) := by omega
      have hw8 : IntKind.i64.wrap (8 * (len5 : Int)) = 8 * (len5 : Int) := wrap_small _ (by omega) (by omega)
      by_cases h3 : len4 + 8 * len5 ≤ 1048576
      · have h3' : ¬ (1048576 : Int) < (len4 : Int) + 8 * (len5 : Int) := by omega
        by_cases h4 : a0 + len4 ≤ 9223372036854775807
        · have h4' : ¬ (9223372036854775807 - (len4 : Int) < a0) := by omega
          obtain ⟨f, hf, hcl⟩ := cloneB_v W4.out (by omega : len4 ≤ 1048576)
          have HCL := hide hcl
          have HF := hide hf
          clear hcl hf W4
          obtain ⟨E, hE⟩ : ∃ E, E = z5.take len5 := ⟨_, rfl⟩
          have hEl : E.length = len5 := by rw [hE]; exact HZ5.out
          have HE := hide hE
          clear hE HZ5
          go_enter Try.func6, Try.ntmps6
          go_upto_region 8 with (first | (go_at_call 17; refine (HZ.out _).mono ?_; rintro e w' ⟨rfl, hw⟩; obtain rfl := hw.symm) | (go_at_call 11; refine HCL.out.mono ?_; rintro e w1 ⟨vp, rfl, hrow1, hbel1⟩; have HR1 := hide hrow1; have HB1 := hide hbel1; clear hrow1 hbel1))
          have hI1 := cloneI_any (W5.out.below HB1.out) h2
          rw [← HE.out] at hI1
          have HI1 := hide hI1
          clear hI1
          go_upto_region 9 with (go_at_call 18; refine HI1.out.mono ?_; rintro e w2 ⟨vb, rfl, hrow2, hbel2, hob2⟩; have HR2 := hide hrow2; have HB2 := hide hbel2; have HO2 := hide hob2; clear hrow2 hbel2 hob2)
          have hI2 := cloneI_any (W5.out.below (HB1.out.trans (HB2.out.mono HB1.out.size))) h2
          rw [← HE.out] at hI2
          have HI2 := hide hI2
          clear hI2 HI1
          go_upto_region 10 with (go_at_call 18; refine HI2.out.mono ?_; rintro e w3 ⟨v0, rfl, hrow3, hbel3, hob3⟩; have HR3 := hide hrow3; have HB3 := hide hbel3; have HO3 := hide hob3; clear hrow3 hbel3 hob3)
          clear HI2 W5 HE
          have HI3 := hide (newFramer_any a0 a1 a2 a3 w3)
          go_upto_region 11 with (go_at_call 19; refine HI3.out.mono ?_; rintro e w4 ⟨rfl, hrow4, hbel4⟩; have HR4 := hide hrow4; have HB4 := hide hbel4; clear hrow4 hbel4)
          clear HI3
          have s1 := HB1.out.size
          have s2 := HB2.out.size
          have s3 := HB3.out.size
          have s4 := HB4.out.size
          have HBB : Hid (BytesB w4 w.heap.size vp len4 f ∧ (vp ≠ .slice none 0 0 → w.heap.size < w1.heap.size)) := by
            rcases HR1.out with ⟨e1, e2⟩ | ⟨e1, e2⟩
            · exact ⟨.inl ⟨e1, e2⟩, fun h => absurd e1 h⟩
            · have hl := e2.lt
              refine ⟨.inr ⟨e1, e2.of_block ?_⟩, fun _ => hl⟩
              rw [HB4.out.block _ (by omega), HB3.out.block _ (by omega), HB2.out.block _ (by omega)]
          have HI4 := hide (feed_any w3.heap.size w.heap.size len4 w2.heap.size f a0 a1 a2 a3 vp v0 E w4 (by omega) (by omega) hp1 h4 HF.out HR4.out HBB.out.1 (fun h => by have := HBB.out.2 h; omega)
            (own_block (by rw [hEl]; exact HR3.out) (fun k hk => HB4.out.block k (HR3.out.lt k hk).2)) (fun k hk => by have := HO3.out k hk; have := (HR3.out.lt k hk).2; exact ⟨by omega, fun h => by have := HBB.out.2 h; omega⟩) (by omega))
          go_upto_region 12 with (go_at_call 20; refine HI4.out.mono ?_; rintro e w5 ⟨ae, ac, cp, out, vg, hfd, rfl, hfr5, hown5, hk5, hlo⟩; have HFD := hide hfd; have HR5 := hide hfr5; have HG5 := hide hown5; have HK5 := hide hk5; clear hfd hfr5 hown5 hk5)
          clear HI4 HCL HZ
          have s5 := HK5.out.size
          have HBB5 : Hid (BytesB w5 w.heap.size vp len4 f) := by
            rcases HBB.out with ⟨⟨e1, e2⟩ | ⟨e1, e2⟩, e3⟩
            · exact .inl ⟨e1, e2⟩
            · have hl := e3 (by rw [e1]; simp)
              refine .inr ⟨e1, e2.of_block (HK5.out.block _ (by omega) ?_)⟩
              rintro (h | h)
              · omega
              · have := HO3.out _ h; omega
          have HVB : Hid (w5.ownsRow w1.heap.size 2 1 vb E.length (ints E)) := by
            refine own_block (w := w2) (by rw [hEl]; exact HR2.out) fun k hk => ?_
            have hl := (HR2.out.lt k hk).2
            rw [HK5.out.block k (by omega) (by
              rintro (h | h)
              · omega
              · have := HO3.out _ h; omega), HB4.out.block k (by omega), HB3.out.block k hl]
          have HBL : Hid (Below w.heap.size w w5) := by
            have b4 := (((HB1.out.trans (HB2.out.mono s1)).trans (HB3.out.mono (by omega))).trans (HB4.out.mono (by omega)))
            refine b4.trans ⟨HK5.out.os, HK5.out.tape, HK5.out.output, HK5.out.size, fun k hk => HK5.out.block k (by omega) ?_⟩
            rintro (h | h)
            · omega
            · have := HO3.out _ h; omega
          have s6 : w.heap.size ≤ w5.heap.size := by omega
          obtain ⟨lo, hlo2⟩ : ∃ lo, out.length = lo := ⟨_, rfl⟩
          have HI5 := hide (model_any w.heap.size len4 f a0 a1 a2 a3 vp w5 (by omega) hp1 h4 HBB5.out)
          clear HBB5 HBB HR1 HR2 HR3 HR4 HB1 HB2 HB3 HB4 HO2 HO3 HK5
          go_upto_region 13 with (go_at_call 21; refine HI5.out.mono ?_; rintro e w6 ⟨ae', ac', cp', out', vm, hfd', rfl, hown6, hbel6⟩; obtain ⟨rfl, rfl, rfl, rfl⟩ : ae = ae' ∧ ac = ac' ∧ cp = cp' ∧ out = out' := (by have e1 := HFD.out.symm.trans hfd'; simpa using e1); obtain ⟨am, cm, rfl, hmc⟩ := own_form4 hlo2 hown6; have HM6 := hide hmc; have HB6 := hide hbel6; clear hfd' hown6 hbel6 hmc)
          clear HI5 HFD
          obtain ⟨W8, hW8⟩ : ∃ W8, W8 = w6.alloc (.cells #[.slice am lo cm, .int .i64 (a0 + (len4 : Int)), .bool ae, .bool ac, .bool cp] 35) := ⟨_, rfl⟩
          rw [← hW8]
          have s7 := HB6.out.size
          have hrow8 : W8.rowIs w6.heap.size 35 5 (mrw (.slice am lo cm) (a0 + (len4 : Int)) ae ac cp) := by
            rw [hW8]
            exact World.rowIs_alloc w6 _ 35 _ (fun i hi => by match i, hi with | 0, _ => rfl | 1, _ => rfl | 2, _ => rfl | 3, _ => rfl | 4, _ => rfl)
          have x0 : W8.cell? ⟨w6.heap.size, 0, none⟩ = some (.slice am lo cm) := hrow8.cell (i := 0) (by omega)
          have x1 : W8.cell? ⟨w6.heap.size, 1, none⟩ = some (.int .i64 (a0 + (len4 : Int))) := hrow8.cell (i := 1) (by omega)
          have x2 : W8.cell? ⟨w6.heap.size, 2, none⟩ = some (.bool ae) := hrow8.cell (i := 2) (by omega)
          have x3 : W8.cell? ⟨w6.heap.size, 3, none⟩ = some (.bool ac) := hrow8.cell (i := 3) (by omega)
          have x4 : W8.cell? ⟨w6.heap.size, 4, none⟩ = some (.bool cp) := hrow8.cell (i := 4) (by omega)
          clear hrow8
          have hb8 : ∀ k, k < w5.heap.size → W8.heap[k]? = w5.heap[k]? := fun k hk => by rw [hW8, Below.heap_alloc w6 _ k (by omega), HB6.out.block k hk]
          have HFR : Hid (W8.rowIs w3.heap.size 44 4 (frm (a0 + (len4 : Int)) ae ac cp)) := HR5.out.of_block (hb8 _ HR5.out.lt)
          have HBL8 : Hid (Below w.heap.size w W8) := by
            rw [hW8]; exact (HBL.out.trans (HB6.out.mono s6)).alloc (by omega) _
          have HM8 : Hid (∀ i, i < lo → ∃ g, am = some ⟨g, 0, none⟩ ∧ W8.cell? ⟨g, i, none⟩ = some (.int .i64 (out.getD i 0))) := fun i hi => by
            obtain ⟨g, e1, e2⟩ := HM6.out i hi
            refine ⟨g, e1, ?_⟩
            rw [hW8, ← e2]
            exact World.cell?_of_block (Below.heap_alloc w6 _ g (World.block_lt_of_cell? _ _ e2))
          have hlg : (E ++ out).length = len5 + lo := by simp [hEl, hlo2]
          obtain ⟨ag, cg, rfl, hg8⟩ := own_form4 hlg (own_block HG5.out (fun k hk => hb8 k (HG5.out.lt k hk).2))
          obtain ⟨ab, cb, rfl, hv8⟩ := own_form4 hEl (own_block HVB.out (fun k hk => hb8 k (HVB.out.lt k hk).2))
          have HG8 := hide hg8
          have HV8 := hide hv8
          clear hg8 hv8 hb8 hW8 HM6 HB6 HG5 HVB HR5 HBL
          have HL := hide hlo2
          have HLE := hide hEl
          clear hlg hlo2 hEl
          rw [HL.out] at hlo
          have hlo' : ((len5 + lo : Nat) : Int) = (len5 : Int) + (lo : Int) := by omega
          go_wp2
          go_loopg [17] len5 (fun g t wx => ∃ j k : Nat, j + g = len5 ∧ t = .int .i64 j ∧ wx = W8.drewN k)
          case atStart => exact ⟨0, 0, by omega, rfl, rfl⟩
          case round =>
            obtain ⟨j, k, hj, rfl, rfl⟩ := hrel
            by_cases hlt : j < len5
            · obtain ⟨gg, rfl, cg1⟩ := HG8.out j (by omega)
              obtain ⟨gb, rfl, cb1⟩ := HV8.out j hlt
              rw [show (E ++ out).getD j 0 = E.getD j 0 by simp [List.getD, List.getElem?_append, HLE.out, hlt]] at cg1
              obtain ⟨y, hy⟩ : ∃ y, E.getD j 0 = y := ⟨_, rfl⟩
              rw [hy] at cg1 cb1
              clear hy
              have hlt' : (j : Int) < (len5 : Int) := by omega
              have hlt2 : (j : Int) < ((len5 + lo : Nat) : Int) := by omega
              have hlt3 : (j : Int) < (len5 : Int) + (lo : Int) := by omega
              go_wp2
              go_quiet (fail)
              go_wp2
              go_roundg (len5 - (j + 1))
              case measure => omega
              case rel => exact ⟨j + 1, _, by omega, by go_num, rfl⟩
            · have hge : ¬ (j : Int) < (len5 : Int) := by omega
              go_wp2
              go_loopg [18] lo (fun g t wx => ∃ j k : Nat, j + g = lo ∧ t = .int .i64 j ∧ wx = W8.drewN k)
              case atStart => exact ⟨0, k, by omega, rfl, rfl⟩
              case round =>
                obtain ⟨i, k2, hi, rfl, rfl⟩ := hrel
                by_cases hil : i < lo
                · obtain ⟨gg, rfl, cg1⟩ := HG8.out (len5 + i) (by omega)
                  obtain ⟨gm, rfl, cm1⟩ := HM8.out i hil
                  rw [show (E ++ out).getD (len5 + i) 0 = out.getD i 0 by simp [List.getD, List.getElem?_append, HLE.out, show ¬ len5 + i < len5 by omega]] at cg1
                  obtain ⟨y, hy⟩ : ∃ y, out.getD i 0 = y := ⟨_, rfl⟩
                  rw [hy] at cg1 cm1
                  clear hy
                  have hil' : (i : Int) < (lo : Int) := by omega
                  have hil2 : (len5 : Int) + (i : Int) < (len5 : Int) + (lo : Int) := by omega
                  have hil4 : (0 : Int) ≤ (len5 : Int) + (i : Int) := by omega
                  have hwl : IntKind.i64.wrap ((len5 : Int) + (i : Int)) = (len5 : Int) + (i : Int) := wrap_small _ (by omega) (by omega)
                  go_wp2
                  go_quiet (fail)
                  go_wp2
                  go_roundg (lo - (i + 1))
                  case measure => omega
                  case rel => exact ⟨i + 1, _, by omega, by go_num, rfl⟩
                · have hil' : ¬ (i : Int) < (lo : Int) := by omega
                  have HFS := hide (framerState_any w3.heap.size (a0 + (len4 : Int)) ae ac cp (W8.drewN k2) HFR.out)
                  go_wp2_with (go_at_call 22; refine HFS.out.mono ?_; rintro e w9 ⟨rfl, k3, rfl⟩)
                  go_ret
                  exact ⟨rfl, below_drewN HBL8.out _⟩
        · have h4' : 9223372036854775807 - (len4 : Int) < a0 := by omega
          go_enter Try.func6, Try.ntmps6
          go_wp2_with (go_at_call 17; refine (HZ.out _).mono ?_; rintro e w' ⟨rfl, hw⟩; obtain rfl := hw.symm)
          go_ret
          exact ⟨rfl, Below.refl _ _⟩
      · have h3' : (1048576 : Int) < (len4 : Int) + 8 * (len5 : Int) := by omega
        go_enter Try.func6, Try.ntmps6
        go_wp2_with (go_at_call 17; refine (HZ.out _).mono ?_; rintro e w' ⟨rfl, hw⟩; obtain rfl := hw.symm)
        go_ret
        exact ⟨rfl, Below.refl _ _⟩
    · have h2' : (131072 : Int) < (len5 : Int) := by omega
      go_enter Try.func6, Try.ntmps6
      go_wp2_with (go_at_call 17; refine (HZ.out _).mono ?_; rintro e w' ⟨rfl, hw⟩; obtain rfl := hw.symm)
      go_ret
      exact ⟨rfl, Below.refl _ _⟩
  · rw [decide_eq_false h1] at HZ
    go_enter Try.func6, Try.ntmps6
    go_wp2_with (go_at_call 17; refine (HZ.out _).mono ?_; rintro e w' ⟨rfl, hw⟩; obtain rfl := hw.symm)
    go_ret
    exact ⟨rfl, Below.refl _ _⟩

end Go.Proofs.Qxb6602222a.fnFeedMatchesLookaheadModel

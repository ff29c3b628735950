import Derived.Test.Qxb6601608aL8
namespace Go.Proofs.Qxb6601608a.fnLogicalLineMatchesModel
open Go.RowKit
set_option linter.unusedVariables false

set_option maxRecDepth 100000 in
set_option maxHeartbeats 4000000 in
theorem walk (a0 : ByteArray) (a1 : Int) (a2 : Option Addr) (len2 cap2 : Nat) (z2 : List Int) (w : World) (w0 : a0.size ≤ maxLen) (w1 : (Lit.int .i64 a1).wf = true) (w2 : IsRow .u8 w a2 len2 cap2 z2) :
    Calls Try.prog 8 #[.string a0, .int .i64 a1, .slice a2 len2 cap2] w fun e w' => e = .returned (.bool true) ∧ Below w.heap.size w w' := by
  have hl2 : len2 ≤ maxLen := by
    rcases w2 with ⟨_, rfl, _⟩ | ⟨x, _, h1, h2, _⟩
    · exact Nat.zero_le _
    · exact Nat.le_trans h1 h2
  have HZ := hide (fun wx => zz21 a0 a1 a2 len2 cap2 wx w0 hl2)
  have HW := hide w2
  clear w2
  unfold maxLen at w0 hl2
  by_cases h1 : a0.size + len2 ≤ 1048576
  · rw [decide_eq_true h1] at HZ
    by_cases h2 : a0.size ≤ 524288
    · have i2 : ¬ (524288 : Int) < (a0.size : Int) := by omega
      by_cases h3 : len2 ≤ 524288
      · have i3 : ¬ (524288 : Int) < (len2 : Int) := by omega
        by_cases h4 : a1 < 0
        · go_enter Try.func8, Try.ntmps8
          go_wp2_with (go_at_call 21; refine (HZ.out _).mono ?_; rintro e w' ⟨rfl, hw⟩; obtain rfl := hw.symm)
          go_ret
          exact ⟨rfl, Below.refl _ _⟩
        · by_cases h5 : (a0.size : Int) < a1
          · go_enter Try.func8, Try.ntmps8
            go_wp2_with (go_at_call 21; refine (HZ.out _).mono ?_; rintro e w' ⟨rfl, hw⟩; obtain rfl := hw.symm)
            go_ret
            exact ⟨rfl, Below.refl _ _⟩
          · obtain ⟨p, rfl⟩ : ∃ p : Nat, a1 = (p : Int) := ⟨a1.toNat, by omega⟩
            have hp : p ≤ a0.size := by omega
            have HCL := hide (cloneB_any HW.out (by omega))
            go_enter Try.func8, Try.ntmps8
            go_upto_region 8 with (first | (go_at_call 21; refine (HZ.out _).mono ?_; rintro e w' ⟨rfl, hw⟩; obtain rfl := hw.symm) | (go_at_call 22; refine HCL.out.mono ?_; rintro e w3 ⟨al, m, cl, xs, rfl, hown, hbel⟩; have HO := hide hown; have HB := hide hbel; clear hown hbel))
            clear HCL HZ
            have hbs := HB.out.size
            have HC := hide (zzLogicalLine_any a0 p w.heap.size (.slice al m cl) m xs w3 (by omega) hp hbs HO.out)
            go_upto_region 9 with (go_at_call 23; refine HC.out.mono ?_; rintro e w4 ⟨D, q, gl, gs, vl, hll, rfl, hrl, hrs, hli, hne, hgl, hgs, hb4⟩; obtain ⟨al2, cl2, rfl⟩ := own_shape hli; have HLL := hide hll; have HRL := hide hrl; have HRS := hide hrs; have HLI := hide hli; have HB4 := hide hb4; clear hll hrl hrs hli hne hgl hgs hb4)
            clear HC HO
            have HMD := hide (modelLL_any a0 p D q w4 (by omega) hp HLL.out)
            go_upto_region 10 with (go_at_call 24; refine HMD.out.mono ?_; rintro e w5 ⟨gl2, gs2, rfl, hrl2, hrs2, hb5⟩; have HRL2 := hide hrl2; have HRS2 := hide hrs2; have HB5 := hide hb5; clear hrl2 hrs2 hb5)
            clear HMD
            have hdl := lls_len_le a0 (a0.size + 1) p
            have hG := lls_good a0 (a0.size + 1) p hp (by omega)
            rw [HLL.out] at hdl hG
            simp only at hdl hG
            have HG := hide hG
            clear hG
            have hrl5 := HRL.out.of_block (HB5.out.block gl HRL.out.lt)
            have hrs5 := HRS.out.of_block (HB5.out.block gs HRS.out.lt)
            have hli5 := own_block HLI.out (fun k hk => HB5.out.block k (HLI.out.lt k hk).2)
            have HE1 := hide (equalInts_same gl gl2 D.length D.length D.length (plv D) w5 (by omega) (fun i hi => hrl5.cell hi) (fun i hi => HRL2.out.cell hi))
            have HE2 : Hid (∀ wx k, wx = w5.drewN k → Calls Try.prog 25 #[.slice (some ⟨gs, 0, none⟩) D.length D.length, .slice (some ⟨gs2, 0, none⟩) D.length D.length] wx fun e w' => e = .returned (.bool true) ∧ ∃ k, w' = wx.drewN k) := hide (fun wx k h => by
              subst h
              exact equalInts_same gs gs2 D.length D.length D.length (psv D) (w5.drewN k) (by omega) (fun i hi => hrs5.cell hi) (fun i hi => HRS2.out.cell hi))
            have HLI5 := hide hli5
            have HBW : Hid (Below w.heap.size w w5) := hide ((HB.out.trans HB4.out).trans (HB5.out.mono (Nat.le_trans hbs HB4.out.size)))
            clear hrl5 hrs5 hli5 HRL HRS HRL2 HRS2 HLI HB HB4 HB5 HLL
            obtain ⟨L, hL⟩ : ∃ L, room a0 D = L := ⟨_, rfl⟩
            rw [hL] at HLI5 ⊢
            obtain ⟨J, hJ⟩ : ∃ J, joined a0 D = J := ⟨_, rfl⟩
            rw [hJ]
            have HL := hide hL
            have HJ := hide hJ
            clear hL hJ
            have e2 : ((q : Int) != (q : Int)) = false := by simp
            go_upto_region 12 with (first | (go_at_call_of 25 gl; refine HE1.out.mono ?_; rintro e w6 ⟨rfl, k6, hk6⟩; have HK6 := hide hk6; clear hk6) | (go_at_call_of 25 gs; refine (HE2.out _ _ HK6.out).mono ?_; rintro e w7 ⟨rfl, k7, hk7⟩; have HK7 := hide hk7; clear hk7))
            have HB7 : Hid (Below w.heap.size w w7) := by rw [HK7.out, HK6.out]; exact hide (below_drewN (below_drewN HBW.out _) _)
            have HLI7 : Hid (w7.ownsRow w.heap.size 5 1 (.slice al2 L.length cl2) L.length (bcells L)) := by rw [HK7.out, HK6.out]; exact hide (own_block HLI5.out (fun _ _ => rfl))
            clear HK6 HK7 HE1 HE2 HLI5 HBW
            by_cases hD1 : D.length = 1
            · have hL0 : L = [] := by rw [← HL.out, room, if_pos hD1]
              subst hL0
              have e3 : ((D.length : Int) == 1) = true := by rw [hD1]; rfl
              clear hD1
              go_wp2
              go_ret
              exact ⟨rfl, HB7.out⟩
            · have hJL : J = ⟨L.toArray⟩ := by rw [← HL.out, ← HJ.out, room, if_neg hD1]; rfl
              have e3 : ((D.length : Int) == 1) = false := by rw [beq_eq_false_iff_ne]; omega
              have hcv : (convert 28 9 (.slice al2 L.length cl2)).run Try.prog w7 = .ok (.string J) w7 := by
                rw [hJL]
                rcases HLI7.out.2 with ⟨hv, h0⟩ | ⟨g, cap, cur, hv, _⟩
                · obtain rfl : L = [] := List.length_eq_zero_iff.1 h0
                  rw [hv]
                  exact conv_nil _
                · have hout := HLI7.out
                  rw [hv] at hout ⊢
                  exact run_convert_bytes_back (P := Try.prog) w7 28 9 5 ⟨g, 0, none⟩ cap L Try.underlying28 Try.underlying5 Try.underlying9 (fun j hj => by
                    rw [addr_add, hout.cellAt j (by omega)]
                    simp [bcells, hj])
              clear hJL hD1
              go_wp2
              go_ret
              exact ⟨rfl, HB7.out⟩
      · have i3 : (524288 : Int) < (len2 : Int) := by omega
        go_enter Try.func8, Try.ntmps8
        go_wp2_with (go_at_call 21; refine (HZ.out _).mono ?_; rintro e w' ⟨rfl, hw⟩; obtain rfl := hw.symm)
        go_ret
        exact ⟨rfl, Below.refl _ _⟩
    · have i2 : (524288 : Int) < (a0.size : Int) := by omega
      go_enter Try.func8, Try.ntmps8
      go_wp2_with (go_at_call 21; refine (HZ.out _).mono ?_; rintro e w' ⟨rfl, hw⟩; obtain rfl := hw.symm)
      go_ret
      exact ⟨rfl, Below.refl _ _⟩
  · rw [decide_eq_false h1] at HZ
    go_enter Try.func8, Try.ntmps8
    go_wp2_with (go_at_call 21; refine (HZ.out _).mono ?_; rintro e w' ⟨rfl, hw⟩; obtain rfl := hw.symm)
    go_ret
    exact ⟨rfl, Below.refl _ _⟩

end Go.Proofs.Qxb6601608a.fnLogicalLineMatchesModel

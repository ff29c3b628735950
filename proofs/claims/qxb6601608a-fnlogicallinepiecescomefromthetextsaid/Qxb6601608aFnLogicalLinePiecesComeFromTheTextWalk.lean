import Derived.Test.Qxb6601608aL4
namespace Go.Proofs.Qxb6601608a.fnLogicalLinePiecesComeFromTheText
open Go.RowKit
set_option linter.unusedVariables false

set_option maxRecDepth 100000 in
set_option maxHeartbeats 4000000 in
theorem walk (a0 : ByteArray) (a1 : Int) (w0 : a0.size ≤ maxLen) (w1 : (Lit.int .i64 a1).wf = true) (w : World) :
    Calls Try.prog 9 #[.string a0, .int .i64 a1] w fun e w' => e = .returned (.bool true) ∧ Below w.heap.size w w' := by
  have hZ := fun wx => zz26 a0 a1 wx w0
  have HZ := hide hZ
  clear hZ
  by_cases h1 : a0.size ≤ 1048576
  · rw [decide_eq_true h1] at HZ
    have h1' : ¬ (1048576 : Int) < (a0.size : Int) := by omega
    by_cases h2 : a1 < 0
    · go_enter Try.func9, Try.ntmps9
      go_wp2_with (go_at_call 26; refine (HZ.out _).mono ?_; rintro e w' ⟨rfl, hw⟩; obtain rfl := hw.symm)
      go_ret
      exact ⟨rfl, Below.refl _ _⟩
    · by_cases h3 : (a0.size : Int) < a1
      · go_enter Try.func9, Try.ntmps9
        go_wp2_with (go_at_call 26; refine (HZ.out _).mono ?_; rintro e w' ⟨rfl, hw⟩; obtain rfl := hw.symm)
        go_ret
        exact ⟨rfl, Below.refl _ _⟩
      · obtain ⟨p, rfl⟩ : ∃ p : Nat, a1 = (p : Int) := ⟨a1.toNat, by omega⟩
        have hp : p ≤ a0.size := by omega
        have HC := hide (zzLogicalLine_nil a0 p w h1 hp)
        go_enter Try.func9, Try.ntmps9
        go_upto_region 8 with (first | (go_at_call 26; refine (HZ.out _).mono ?_; rintro e w' ⟨rfl, hw⟩; obtain rfl := hw.symm) | (go_at_call 23; refine HC.out.mono ?_; rintro e w1 ⟨D, q, gl, gs, al, cl, hG, rfl, hlen, hP⟩; have HG := hide hG; have HP := hide hP; clear hG hP))
        clear HC HZ
        have hne := HG.out.ne
        have hle1 := HG.out.le1
        have hle2 := HG.out.le2
        have hln := HG.out.ln
        obtain ⟨J, hJ⟩ : ∃ J, joined a0 D = J := ⟨_, rfl⟩
        have hJs : J.size = len D := by rw [← hJ]; exact joined_size HG.out.fits
        rw [hJ]
        have c1 : w1.cell? ⟨gl, 0, none⟩ = some (.int .i64 0) := by have h := HP.out.rl.cell hne; rw [plv, off_zero] at h; exact h
        have c2 : w1.cell? ⟨gs, 0, none⟩ = some (.int .i64 p) := by have h := HP.out.rs.cell hne; rw [psv, HG.out.hd] at h; exact h
        have HJ := hide hJ
        have HJs := hide hJs
        clear hJ
        have n1 : ((D.length : Int) == 0) = false := by rw [beq_eq_false_iff_ne]; omega
        have n2 : ((p : Int) != (p : Int)) = false := by simp
        have i1 : (p : Int) ≤ (q : Int) := by omega
        have i2 : (q : Int) ≤ (a0.size : Int) := by omega
        have i3 : ¬ (q : Int) - (p : Int) < (J.size : Int) := by omega
        clear hJs
        go_upto_region 13 with (fail)
        go_cut [80] (fun t80 wc => t80 = .bool false ∧ wc = w1)
        case first =>
          have HMV := hide HG.out.mv
          by_cases hqp : q = p
          · have hps : p = a0.size := HMV.out hqp
            subst hqp
            have e1 : ((q : Int) != (a0.size : Int)) = false := by simp; omega
            clear hps HMV
            go_wp2
            go_meet
            exact ⟨rfl, rfl⟩
          · have e1 : ((q : Int) == (p : Int)) = false := by simp; omega
            go_wp2
            go_meet
            exact ⟨by simp; omega, rfl⟩
        case rest =>
          obtain ⟨rfl, rfl⟩ := hcut
          go_wp2
          clear c1 c2
          go_loopg [11] J.size (fun g t wx => wc = wx ∧ ∃ k : Nat, k + g = J.size ∧ t = .int .i64 k)
          case atStart => exact ⟨rfl, 0, by omega, rfl⟩
          case round =>
            obtain ⟨rfl, k, hk, rfl⟩ := hrel
            by_cases hkn : k < J.size
            · obtain ⟨c, hc, hc1, hc2⟩ : ∃ c : Nat, (J[k]'hkn).toNat = c ∧ c ≠ 10 ∧ c ≠ 13 := by
                have h := HG.out.byte (k := k) (by rw [HJ.out]; exact hkn)
                have h2 : le ((J[k]'hkn).toNat) = false := by
                  have h3 : ∀ (X : ByteArray) (h4 : k < X.size), X = joined a0 D → le ((X[k]'h4).toNat) = false := fun X h4 h5 => by subst h5; exact h
                  exact h3 J hkn HJ.out.symm
                refine ⟨_, rfl, ?_⟩
                simp [le] at h2
                exact h2
              have e1 : ((c : Int) == 10) = false := by rw [beq_eq_false_iff_ne]; omega
              have e2 : ((c : Int) == 13) = false := by rw [beq_eq_false_iff_ne]; omega
              clear hc1 hc2
              go_wp2
              go_roundg (J.size - (k + 1))
              case measure => omega
              case rel => exact ⟨rfl, k + 1, by omega, by go_num⟩
            · obtain rfl : k = J.size := by omega
              go_wp2
              go_loopg [12, 13, 14, 15] D.length (fun g t _ _ _ wx => ∃ k : Nat, k + g = D.length ∧ t = .int .i64 k ∧ PS w wx gl gs D (Value.slice al (room a0 D).length cl) (room a0 D))
              case atStart => exact ⟨0, by omega, rfl, HP.out⟩
              case round =>
                obtain ⟨j, hj, rfl, hP1⟩ := hrel
                have HP1 := hide hP1
                clear hP1 HP
                by_cases hjn : j < D.length
                · have hin := HG.out.inn j hjn
                  have ho := off_succ D j hjn
                  have hole := off_le D (j + 1)
                  have hpc := HG.out.piece hjn
                  rw [HJ.out] at hpc
                  obtain ⟨a, ha⟩ : ∃ a, (nth D j).1 = a := ⟨_, rfl⟩
                  rw [ha] at hin ho hpc
                  obtain ⟨m, hm⟩ : ∃ m, (nth D j).2 = a + m := ⟨(nth D j).2 - a, by omega⟩
                  obtain ⟨o, hoo⟩ : ∃ o, off D j = o := ⟨_, rfl⟩
                  rw [hm] at hin ho hpc
                  rw [hoo, Nat.add_sub_cancel_left] at ho
                  rw [ho, hoo] at hpc
                  rw [ho, ← HJs.out] at hole
                  have c1 : wr.cell? ⟨gl, j, none⟩ = some (.int .i64 (o : Nat)) := by have h := HP1.out.rl.cell hjn; rw [plv, hoo] at h; exact h
                  have c2 : wr.cell? ⟨gs, j, none⟩ = some (.int .i64 (a : Nat)) := by have h := HP1.out.rs.cell hjn; rw [psv, ha] at h; exact h
                  have i4 : (o : Int) + (m : Int) ≤ (J.size : Int) := by omega
                  have i5 : (a : Int) + (m : Int) ≤ (a0.size : Int) := by omega
                  have HPC := hide hpc
                  have HO := hide ho
                  have HM := hide hm
                  have HA := hide ha
                  clear hpc ho hm ha hoo hin hole
                  have w1 : IntKind.i64.wrap (m : Int) = (m : Int) := wrap_small _ (by omega) (by omega)
                  have w2 : IntKind.i64.wrap ((a : Int) + (m : Int)) = (a : Int) + (m : Int) := wrap_small _ (by omega) (by omega)
                  by_cases hl : j + 1 < D.length
                  · have hmid := HG.out.mid j hl
                    obtain ⟨a', ha'⟩ : ∃ a', (nth D (j + 1)).1 = a' := ⟨_, rfl⟩
                    rw [HM.out, ha'] at hmid
                    have c3 : wr.cell? ⟨gl, j + 1, none⟩ = some (.int .i64 ((o : Int) + m)) := by have h := HP1.out.rl.cell hl; rw [plv, HO.out] at h; simpa using h
                    have c4 : wr.cell? ⟨gs, j + 1, none⟩ = some (.int .i64 (a' : Nat)) := by have h := HP1.out.rs.cell hl; rw [psv, ha'] at h; exact h
                    have hlt : a + m < a0.size := hmid.1
                    have hb : (a0[a + m]'hlt).toNat = 92 := by rw [← bt_in hlt]; exact hmid.2.1
                    have i6 : (a : Int) + m < (a0.size : Int) := by omega
                    have i7 : (a : Int) + m < (a' : Int) := by omega
                    clear hmid ha'
                    go_upto_region 31 with (fail)
                    rw [show (o : Int) + (m : Int) - (o : Int) = (m : Int) by omega]
                    have i8 : (a : Int) ≤ (a0.size : Int) - (m : Int) := by omega
                    go_upto_region 33 with (fail)
                    have hq1 := HPC.out
                    go_quiet (fail)
                    go_wp2
                    go_roundg (D.length - (j + 1))
                    case measure => omega
                    case rel => exact ⟨j + 1, by omega, by go_num, HP1.out.drewN _⟩
                  · have hn : D.length = j + 1 := by omega
                    have hlst := HG.out.lst j (by omega)
                    rw [HM.out] at hlst
                    have hJ2 : J.size = o + m := by rw [HJs.out, ← off_all, hn, HO.out]
                    have HN := hide hn
                    have HLS := hide hlst
                    clear hlst hn
                    have hl' : ¬ ((j : Int) + 1 < (D.length : Int)) := by omega
                    have HJ3 : Hid ((J.size : Int) - (o : Int) = (m : Int)) := hide (by omega)
                    have i9 : (o : Int) ≤ (J.size : Int) := by omega
                    have hpj : J.extract o J.size = a0.extract a (a + m) := by rw [hJ2]; exact HPC.out
                    have HPJ := hide hpj
                    clear hJ2 hpj
                    go_upto_region 31 with (fail)
                    rw [HJ3.out]
                    have i8 : (a : Int) ≤ (a0.size : Int) - (m : Int) := by omega
                    go_upto_region 33 with (fail)
                    have hq1 := HPJ.out
                    go_quiet (fail)
                    go_upto_region 39 with (fail)
                    obtain ⟨W5, hW5⟩ : ∃ W5, W5 = wr.drewN nq := ⟨_, rfl⟩
                    rw [← hW5]
                    have HP2 : Hid (PS w W5 gl gs D (Value.slice al (room a0 D).length cl) (room a0 D)) := by rw [hW5]; exact HP1.out.drewN _
                    clear hW5 HP1 hq1 c1 c2
                    go_cut [224] (fun t224 wc => t224 = .bool false ∧ wc = W5)
                    case first =>
                      rcases HLS.out with hsz | ⟨hlt, hle⟩
                      · have e1 : ((a : Int) + (m : Int) != (a0.size : Int)) = false := by simp; omega
                        clear hsz
                        go_wp2
                        go_meet
                        exact ⟨rfl, rfl⟩
                      · have e1 : ((a : Int) + (m : Int) != (a0.size : Int)) = true := by simp; omega
                        have i6 : (a : Int) + m < (a0.size : Int) := by omega
                        have hb : (a0[a + m]'hlt).toNat = bt a0 (a + m) := (bt_in hlt).symm
                        have h10 : bt a0 (a + m) = 10 ∨ bt a0 (a + m) = 13 := by simpa [le] using hle
                        clear hle
                        rcases h10 with h10 | h10
                        · rw [h10] at hb
                          clear h10
                          go_wp2
                          go_meet
                          exact ⟨rfl, rfl⟩
                        · rw [h10] at hb
                          clear h10
                          go_wp2
                          go_meet
                          exact ⟨rfl, rfl⟩
                    case rest =>
                      obtain ⟨rfl, rfl⟩ := hcut
                      go_wp2
                      go_roundg 0
                      case measure => have := HN.out; omega
                      case rel => exact ⟨j + 1, by have := HN.out; omega, by go_num, HP2.out⟩
                · obtain rfl : j = D.length := by omega
                  have HB := hide HP1.out.bel
                  have HLI := hide HP1.out.li
                  clear HP1
                  obtain ⟨L, hL⟩ : ∃ L, room a0 D = L := ⟨_, rfl⟩
                  rw [hL] at HLI ⊢
                  have HL := hide hL
                  clear hL
                  rcases HLI.out.2 with ⟨hv, h0⟩ | ⟨g, cap, cur, hv, _⟩
                  · obtain rfl : L = [] := List.length_eq_zero_iff.1 h0
                    clear hv h0
                    go_wp2
                    go_ret
                    exact ⟨rfl, HB.out⟩
                  · obtain ⟨rfl, _, rfl⟩ : al = some ⟨g, 0, none⟩ ∧ True ∧ cl = cap := by
                      simp at hv; exact ⟨hv.1, trivial, hv.2⟩
                    clear hv
                    by_cases hL0 : L.length = 0
                    · obtain rfl : L = [] := List.length_eq_zero_iff.1 hL0
                      clear hL0
                      go_wp2
                      go_ret
                      exact ⟨rfl, HB.out⟩
                    · have hJL : Value.string ⟨L.toArray⟩ = .string J := by
                        have h2 := HL.out
                        rw [room] at h2
                        split at h2
                        · rw [← h2] at hL0; simp at hL0
                        · rw [← h2, ← HJ.out]; rfl
                      have e1 : ((L.length : Int) == 0) = false := by rw [beq_eq_false_iff_ne]; omega
                      have hcv := run_convert_bytes_back (P := Try.prog) wr 28 9 5 ⟨g, 0, none⟩ cl L Try.underlying28 Try.underlying5 Try.underlying9 (fun j hj => by
                        rw [addr_add]
                        rw [HLI.out.cellAt j (by omega)]
                        simp [bcells, hj])
                      rw [hJL] at hcv
                      clear hJL hL0
                      go_wp2
                      go_ret
                      exact ⟨rfl, HB.out⟩
  · rw [decide_eq_false h1] at HZ
    go_enter Try.func9, Try.ntmps9
    go_wp2_with (go_at_call 26; refine (HZ.out _).mono ?_; rintro e w' ⟨rfl, hw⟩; obtain rfl := hw.symm)
    go_ret
    exact ⟨rfl, Below.refl _ _⟩

end Go.Proofs.Qxb6601608a.fnLogicalLinePiecesComeFromTheText

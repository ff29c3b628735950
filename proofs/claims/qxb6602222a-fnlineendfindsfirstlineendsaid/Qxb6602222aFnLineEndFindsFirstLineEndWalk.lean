import Derived.Test.Qxb6602222aS4
import Derived.Deep.DeepCutAuto
namespace Go.Proofs.Qxb6602222a.fnLineEndFindsFirstLineEnd
open Go.RowKit
set_option linter.unusedVariables false

set_option maxRecDepth 100000 in
set_option maxHeartbeats 8000000 in
theorem walk (a0 : Option Addr) (len0 cap0 : Nat) (z0 : List Int) (a1 : Int) (a2 : Int) (w : World) (w0 : IsRow .u8 w a0 len0 cap0 z0) (w1 : (Lit.int .i64 a1).wf = true) (w2 : (Lit.int .i64 a2).wf = true) :
    Calls Try.prog 8 #[.slice a0 len0 cap0, .int .i64 a1, .int .i64 a2] w fun e w' => e = .returned (.bool true) ∧ Below w.heap.size w w' := by
  have hlen : len0 ≤ maxLen := by
    rcases w0 with ⟨_, rfl, _⟩ | ⟨_, _, h1, h2, _⟩
    · exact Nat.zero_le _
    · omega
  have hZ := fun wx => zz24 a0 len0 cap0 a1 a2 wx hlen
  have HZ := hide hZ
  clear hZ
  unfold maxLen at hlen
  have W0 := hide w0
  clear w0 w1 w2
  by_cases h1 : len0 ≤ 1048576
  · rw [decide_eq_true h1] at HZ
    have h1' : ¬ (1048576 : Int) < (len0 : Int) := by omega
    by_cases h2 : a1 < 0
    · go_enter Try.func8, Try.ntmps8
      go_wp2_with (go_at_call 24; refine (HZ.out _).mono ?_; rintro e w' ⟨rfl, hw⟩; obtain rfl := hw.symm)
      go_ret
      exact ⟨rfl, Below.refl _ _⟩
    · by_cases h3 : (len0 : Int) < a1
      · go_enter Try.func8, Try.ntmps8
        go_wp2_with (go_at_call 24; refine (HZ.out _).mono ?_; rintro e w' ⟨rfl, hw⟩; obtain rfl := hw.symm)
        go_ret
        exact ⟨rfl, Below.refl _ _⟩
      · obtain ⟨i, rfl⟩ : ∃ i : Nat, a1 = (i : Int) := ⟨a1.toNat, by omega⟩
        have hi : i ≤ len0 := by omega
        by_cases h4 : (i : Int) ≤ a2 ∧ (len0 : Int) < a2
        · obtain ⟨h5, h6⟩ := h4
          go_enter Try.func8, Try.ntmps8
          go_wp2_with (go_at_call 24; refine (HZ.out _).mono ?_; rintro e w' ⟨rfl, hw⟩; obtain rfl := hw.symm)
          go_ret
          exact ⟨rfl, Below.refl _ _⟩
        · rcases cloneB_any W0.out h1 with ⟨⟨rfl, rfl, rfl⟩, hcl⟩ | ⟨f, hf, hcl⟩
          · have HCL := hide hcl
            clear hcl W0
            obtain rfl : i = 0 := by omega
            have hneg : a2 ≤ 0 := by omega
            clear h4
            have hZL : ∀ t, Calls Try.prog 25 #[.slice none 0 0, .int .i64 0, .pointer (some ⟨w.heap.size, 0, none⟩)] (w.alloc (.cells #[.int .i64 a2] t)) fun e w' => e = .returned (.int .i64 0) ∧ Cell w' w.heap.size (w.heap.size + 1) 0 ∧ Onl w.heap.size (w.alloc (.cells #[.int .i64 a2] t)) w' := fun t =>
              zzLineEnd_nil w.heap.size (w.heap.size + 1) a2 _ ⟨by rw [World.cell?_alloc_at _ _ _ _ rfl]; rfl, World.frozen?_alloc_at _ _ _ _ rfl, by omega⟩ hneg
            have HZL := hide hZL
            clear hZL
            by_cases hn0 : a2 < 0
            · go_enter Try.func8, Try.ntmps8
              go_wp2_with (first | (go_at_call 24; refine (HZ.out _).mono ?_; rintro e w' ⟨rfl, hw⟩; obtain rfl := hw.symm) | (go_at_call 11; refine HCL.out.mono ?_; rintro e w' ⟨rfl, hw⟩; obtain rfl := hw.symm) | (go_at_call 25; refine (HZL.out _).mono ?_; rintro e w2 ⟨rfl, hc2, ho2⟩; have HC2 := hide hc2; have HO2 := hide ho2; clear hc2 ho2))
              go_loop [10, 11, 12] (fun t10 t11 t12 => t10 = .int .i64 0 ∧ t11 = .int .i64 0 ∧ t12 = .int .i64 (-1)) (fun _ _ _ => 0)
              case atStart => exact ⟨rfl, rfl, rfl⟩
              case round =>
                obtain ⟨rfl, rfl, rfl⟩ := hrel
                obtain ⟨m0, m1, m2⟩ := HC2.out
                go_wp2
                go_ret
                exact ⟨rfl, ((Below.refl _ _).alloc (Nat.le_refl _) _).trans (HO2.out.below (Nat.le_refl _))⟩
            · obtain rfl : a2 = 0 := by omega
              go_enter Try.func8, Try.ntmps8
              go_wp2_with (first | (go_at_call 24; refine (HZ.out _).mono ?_; rintro e w' ⟨rfl, hw⟩; obtain rfl := hw.symm) | (go_at_call 11; refine HCL.out.mono ?_; rintro e w' ⟨rfl, hw⟩; obtain rfl := hw.symm))
              go_loop [7] (fun t7 => t7 = .int .i64 0) (fun _ => 0)
              case atStart => rfl
              case round =>
                subst hrel
                go_wp2_with (first | (go_at_call 25; refine (HZL.out _).mono ?_; rintro e w2 ⟨rfl, hc2, ho2⟩; have HC2 := hide hc2; have HO2 := hide ho2; clear hc2 ho2))
                go_loop [10, 11, 12] (fun t10 t11 t12 => t10 = .int .i64 0 ∧ t11 = .int .i64 0 ∧ t12 = .int .i64 (-1)) (fun _ _ _ => 0)
                case atStart => exact ⟨rfl, rfl, rfl⟩
                case round =>
                  obtain ⟨rfl, rfl, rfl⟩ := hrel
                  obtain ⟨m0, m1, m2⟩ := HC2.out
                  go_wp2
                  go_ret
                  exact ⟨rfl, ((Below.refl _ _).alloc (Nat.le_refl _) _).trans (HO2.out.below (Nat.le_refl _))⟩
          · have HCL := hide hcl
            clear hcl W0
            by_cases h5 : a2 < i
            · clear h4
              go_enter Try.func8, Try.ntmps8
              go_upto_region 18 with (first | (go_at_call 24; refine (HZ.out _).mono ?_; rintro e w' ⟨rfl, hw⟩; obtain rfl := hw.symm) | (go_at_call 11; refine HCL.out.mono ?_; rintro e w1 ⟨rfl, hrow1, hbel1⟩; have HR1 := hide hrow1; have HB1 := hide hbel1; clear hrow1 hbel1))
              have hrow1 := HR1.out
              have hbel1 := HB1.out
              have HROW := hide hrow1
              have HB := hide hbel1
              have hgs : w.heap.size < w1.heap.size := hrow1.lt
              have hZL : ∀ t, Calls Try.prog 25 #[.slice (some ⟨w.heap.size, 0, none⟩) len0 len0, .int .i64 i, .pointer (some ⟨w1.heap.size, 0, none⟩)] (w1.alloc (.cells #[.int .i64 a2] t)) fun e w' => e = .returned (.int .i64 (cE f len0 i : Nat)) ∧ Cell w' w1.heap.size w.heap.size (c13 f len0 i : Nat) ∧ Onl w1.heap.size (w1.alloc (.cells #[.int .i64 a2] t)) w' := fun t =>
                zzLineEnd_row w.heap.size len0 w1.heap.size i a2 f _ h1 hi (hrow1.alloc _) hf (cell_new w1 a2 w.heap.size hgs t) (.inl h5)
              have HZL := hide hZL
              clear hZL hrow1 hbel1
              go_wp2_with (go_at_call 25; refine (HZL.out _).mono ?_; rintro e w2 ⟨rfl, hc2, ho2⟩; have HC2 := hide hc2; have HO2 := hide ho2; clear hc2 ho2)
              have hrow2 : Bytes w2 w.heap.size len0 f := HO2.out.row (HROW.out.alloc _) (by omega)
              have HROW2 := hide hrow2
              clear hrow2
              go_loopg [10, 11, 12] (len0 - i) (fun h t10 t11 t12 wx => w2 = wx ∧ ∃ k : Nat, i + h = k ∧ k ≤ len0 ∧ t12 = .int .i64 ((k : Int) - 1) ∧ t11 = .int .i64 (c13 f len0 k : Nat) ∧ t10 = .int .i64 (cE f len0 k : Nat))
              case atStart => exact ⟨rfl, len0, by omega, Nat.le_refl _, rfl, by rw [c13_end], by rw [cE_end]⟩
              case round =>
                obtain ⟨rfl, k, hk1, hk2, rfl, rfl, rfl⟩ := hrel
                by_cases hik : i < k
                · obtain ⟨j, rfl⟩ : ∃ j, k = j + 1 := ⟨k - 1, by omega⟩
                  have hcj := HROW2.out.cell (i := j) (by omega)
                  have hj1 : (((j + 1 : Nat) : Int) - 1) = (j : Int) := by omega
                  have hj2 : (i : Int) ≤ (j : Int) := by omega
                  have hj3 : (j : Int) < (len0 : Int) := by omega
                  rw [hj1]
                  clear hj1
                  by_cases f13 : f j = 13
                  · have n13 : (((f j : Nat) : Int) == 13) = true := by simp; omega
                    have F13 := hide f13
                    clear f13
                    go_wp2
                    go_roundg (j - i)
                    case measure => omega
                    case rel => exact ⟨rfl, j, by omega, by omega, rfl, by rw [c13_here (by omega) (fun _ => F13.out)], by rw [cE_here (by omega) (.inr F13.out)]⟩
                  · have n13 : (((f j : Nat) : Int) == 13) = false := by simp; omega
                    have F13 := hide f13
                    clear f13
                    by_cases f10 : f j = 10
                    · have n10 : (((f j : Nat) : Int) == 10) = true := by simp; omega
                      have F10 := hide f10
                      clear f10
                      go_wp2
                      go_roundg (j - i)
                      case measure => omega
                      case rel => exact ⟨rfl, j, by omega, by omega, rfl, by rw [c13_pass (by omega) F13.out], by rw [cE_here (by omega) (.inl F10.out)]⟩
                    · have n10 : (((f j : Nat) : Int) == 10) = false := by simp; omega
                      have F10 := hide f10
                      clear f10
                      go_wp2
                      go_roundg (j - i)
                      case measure => omega
                      case rel => exact ⟨rfl, j, by omega, by omega, rfl, by rw [c13_pass (by omega) F13.out], by rw [cE_pass (by omega) F10.out F13.out]⟩
                · obtain rfl : i = k := by omega
                  have hx : ¬ (i : Int) ≤ (i : Int) - 1 := by omega
                  obtain ⟨m0, m1, m2⟩ := HC2.out
                  go_wp2
                  go_ret
                  exact ⟨rfl, (HB.out.alloc HB.out.size _).trans (HO2.out.below (by omega))⟩
            · obtain ⟨cr, rfl⟩ : ∃ cr : Nat, a2 = (cr : Int) := ⟨a2.toNat, by omega⟩
              have h6 : i ≤ cr := by omega
              have h7 : cr ≤ len0 := by omega
              have h6' : (i : Int) ≤ (cr : Int) := by omega
              have h7' : ¬ (len0 : Int) < (cr : Int) := by omega
              clear h4 h5
              by_cases h8 : cr < len0 ∧ f cr ≠ 13
              · obtain ⟨h9, h10⟩ := h8
                have h9' : (cr : Int) < (len0 : Int) := by omega
                have n13 : (((f cr : Nat) : Int) != 13) = true := by simp; omega
                go_enter Try.func8, Try.ntmps8
                go_wp2_with (first | (go_at_call 24; refine (HZ.out _).mono ?_; rintro e w' ⟨rfl, hw⟩; obtain rfl := hw.symm) | (go_at_call 11; refine HCL.out.mono ?_; rintro e w1 ⟨rfl, hrow1, hbel1⟩; have HB1 := hide hbel1; have hcc := hrow1.cell h9; clear hrow1 hbel1))
                go_ret
                exact ⟨rfl, HB1.out⟩
              · have h9 : cr < len0 → f cr = 13 := fun h => Decidable.byContradiction fun hn => h8 ⟨h, hn⟩
                have H9 := hide h9
                clear h8
                have hloop : True := trivial
                by_cases h10 : cr < len0
                all_goals
                  have n13 : cr < len0 → (((f cr : Nat) : Int) != 13) = false := fun h => by have := H9.out h; simp; omega
                  go_enter Try.func8, Try.ntmps8
                  clear h9
                  go_wp2_with (first | (go_at_call 24; refine (HZ.out _).mono ?_; rintro e w' ⟨rfl, hw⟩; obtain rfl := hw.symm) | (go_at_call 11; refine HCL.out.mono ?_; rintro e w1 ⟨rfl, hrow1, hbel1⟩; have HR1 := hide hrow1; have HB1 := hide hbel1; have hcc : cr < len0 → w1.cell? ⟨w.heap.size, cr, none⟩ = some (.int .u8 ((f cr : Nat) : Int)) := fun h => HR1.out.cell h; clear hrow1 hbel1))
                  go_loopg [7] (cr - i) (fun h t7 wx => w1 = wx ∧ ∃ j : Nat, i ≤ j ∧ j + h = cr ∧ t7 = .int .i64 j ∧ ∀ x, i ≤ x → x < j → f x ≠ 13)
                  case atStart => exact ⟨rfl, i, Nat.le_refl _, by omega, rfl, fun x a b => by omega⟩
                  case round =>
                    obtain ⟨rfl, j, hj1, hj2, rfl, hall⟩ := hrel
                    have HALL := hide hall
                    clear hall
                    by_cases hjc : j < cr
                    · have hcj := HR1.out.cell (i := j) (by omega)
                      have hjn : (j : Int) < (len0 : Int) := by omega
                      by_cases f13 : f j = 13
                      · have m13 : (((f j : Nat) : Int) == 13) = true := by simp; omega
                        clear f13
                        go_wp2
                        go_ret
                        exact ⟨rfl, HB1.out⟩
                      · have m13 : (((f j : Nat) : Int) == 13) = false := by simp; omega
                        have F13 := hide f13
                        clear f13
                        go_wp2
                        go_roundg (cr - (j + 1))
                        case measure => omega
                        case rel => exact ⟨rfl, j + 1, by omega, by omega, by go_num, fun x a b => by
                          by_cases e : x = j
                          · subst e; exact F13.out
                          · exact HALL.out x a (by omega)⟩
                    · obtain rfl : j = cr := by omega
                      have hcr : c13 f len0 i = j := c13_is h6 h7 HALL.out H9.out
                      have HCR := hide hcr
                      clear hcr hcc n13
                      go_upto_region 18 with (fail)
                      have hrow1 := HR1.out
                      have hbel1 := HB1.out
                      have HROW := hide hrow1
                      have HB := hide hbel1
                      have hgs : w.heap.size < w1.heap.size := hrow1.lt
                      have hZL : ∀ t, Calls Try.prog 25 #[.slice (some ⟨w.heap.size, 0, none⟩) len0 len0, .int .i64 i, .pointer (some ⟨w1.heap.size, 0, none⟩)] (w1.alloc (.cells #[.int .i64 (j : Int)] t)) fun e w' => e = .returned (.int .i64 (cE f len0 i : Nat)) ∧ Cell w' w1.heap.size w.heap.size (c13 f len0 i : Nat) ∧ Onl w1.heap.size (w1.alloc (.cells #[.int .i64 (j : Int)] t)) w' := fun t =>
                        zzLineEnd_row w.heap.size len0 w1.heap.size i (j : Int) f _ h1 hi (hrow1.alloc _) hf (cell_new w1 (j : Int) w.heap.size hgs t) (.inr (by rw [HCR.out]))
                      have HZL := hide hZL
                      clear hZL hrow1 hbel1
                      go_wp2_with (go_at_call 25; refine (HZL.out _).mono ?_; rintro e w2 ⟨rfl, hc2, ho2⟩; have HC2 := hide hc2; have HO2 := hide ho2; clear hc2 ho2)
                      have hrow2 : Bytes w2 w.heap.size len0 f := HO2.out.row (HROW.out.alloc _) (by omega)
                      have HROW2 := hide hrow2
                      clear hrow2
                      go_loopg [10, 11, 12] (len0 - i) (fun h t10 t11 t12 wx => w2 = wx ∧ ∃ k : Nat, i + h = k ∧ k ≤ len0 ∧ t12 = .int .i64 ((k : Int) - 1) ∧ t11 = .int .i64 (c13 f len0 k : Nat) ∧ t10 = .int .i64 (cE f len0 k : Nat))
                      case atStart => exact ⟨rfl, len0, by omega, Nat.le_refl _, rfl, by rw [c13_end], by rw [cE_end]⟩
                      case round =>
                        obtain ⟨rfl, k, hk1, hk2, rfl, rfl, rfl⟩ := hrel
                        by_cases hik : i < k
                        · obtain ⟨j, rfl⟩ : ∃ j, k = j + 1 := ⟨k - 1, by omega⟩
                          have hcj := HROW2.out.cell (i := j) (by omega)
                          have hj1 : (((j + 1 : Nat) : Int) - 1) = (j : Int) := by omega
                          have hj2 : (i : Int) ≤ (j : Int) := by omega
                          have hj3 : (j : Int) < (len0 : Int) := by omega
                          rw [hj1]
                          clear hj1
                          by_cases f13 : f j = 13
                          · have n13 : (((f j : Nat) : Int) == 13) = true := by simp; omega
                            have F13 := hide f13
                            clear f13
                            go_wp2
                            go_roundg (j - i)
                            case measure => omega
                            case rel => exact ⟨rfl, j, by omega, by omega, rfl, by rw [c13_here (by omega) (fun _ => F13.out)], by rw [cE_here (by omega) (.inr F13.out)]⟩
                          · have n13 : (((f j : Nat) : Int) == 13) = false := by simp; omega
                            have F13 := hide f13
                            clear f13
                            by_cases f10 : f j = 10
                            · have n10 : (((f j : Nat) : Int) == 10) = true := by simp; omega
                              have F10 := hide f10
                              clear f10
                              go_wp2
                              go_roundg (j - i)
                              case measure => omega
                              case rel => exact ⟨rfl, j, by omega, by omega, rfl, by rw [c13_pass (by omega) F13.out], by rw [cE_here (by omega) (.inl F10.out)]⟩
                            · have n10 : (((f j : Nat) : Int) == 10) = false := by simp; omega
                              have F10 := hide f10
                              clear f10
                              go_wp2
                              go_roundg (j - i)
                              case measure => omega
                              case rel => exact ⟨rfl, j, by omega, by omega, rfl, by rw [c13_pass (by omega) F13.out], by rw [cE_pass (by omega) F10.out F13.out]⟩
                        · obtain rfl : i = k := by omega
                          have hx : ¬ (i : Int) ≤ (i : Int) - 1 := by omega
                          obtain ⟨m0, m1, m2⟩ := HC2.out
                          go_wp2
                          go_ret
                          exact ⟨rfl, (HB.out.alloc HB.out.size _).trans (HO2.out.below (by omega))⟩
  · rw [decide_eq_false h1] at HZ
    go_enter Try.func8, Try.ntmps8
    go_wp2_with (go_at_call 24; refine (HZ.out _).mono ?_; rintro e w' ⟨rfl, hw⟩; obtain rfl := hw.symm)
    go_ret
    exact ⟨rfl, Below.refl _ _⟩

end Go.Proofs.Qxb6602222a.fnLineEndFindsFirstLineEnd

import Derived.Test.Qxb6602222aF3
import Derived.Test.Qxb6602222aF2
namespace Go.Proofs.Qxb6602222a
open Go.RowKit

section
variable {f : Nat → Nat} {n : Nat} {p0 : Int} {k i : Nat} {op cp : Bool} {out : List Int}
theorem ml_txt (h : i < n) (h1 : f i ≠ 13) (h2 : f i ≠ 10) : ml f n p0 (k + 1) i op cp out = ml f n p0 k (i + 1) false cp out := by
  conv => lhs; unfold ml
  rw [if_pos h, if_pos ⟨h1, h2⟩]
theorem ml_crlf (h : i < n) (h1 : f i = 13) (h2 : i + 1 < n) (h3 : f (i + 1) = 10) : ml f n p0 (k + 1) i op cp out = ml f n p0 k (i + 2) (!op) cp (opt op out (p0 + ((i + 2 : Nat) : Int))) := by
  conv => lhs; unfold ml
  rw [if_pos h, if_neg (by omega), if_pos ⟨h1, h2, h3⟩]
theorem ml_pend (h : i < n) (h1 : f i = 13) (h2 : i + 1 = n) : ml f n p0 (k + 1) i true cp out = ml f n p0 k (i + 1) false true out := by
  conv => lhs; unfold ml
  rw [if_pos h, if_neg (by omega), if_neg (by omega), if_pos ⟨h1, rfl, h2⟩]
theorem ml_le (h : i < n) (h1 : f i = 13 ∨ f i = 10) (h2 : ¬ (f i = 13 ∧ i + 1 < n ∧ f (i + 1) = 10)) (h3 : ¬ (f i = 13 ∧ op = true ∧ i + 1 = n)) : ml f n p0 (k + 1) i op cp out = ml f n p0 k (i + 1) (!op) cp (opt op out (p0 + ((i + 1 : Nat) : Int))) := by
  conv => lhs; unfold ml
  rw [if_pos h, if_neg (by omega), if_neg h2, if_neg h3]
end

theorem own_form {w : World} {base e : Nat} {v : Value} {n : Nat} {xs : List Value} (h : w.ownsRow base e 1 v (n + 1) xs) : ∃ g cap, v = .slice (some ⟨g, 0, none⟩) (n + 1) cap := by
  rcases h.2 with ⟨_, h0⟩ | ⟨g, cap, _, hv, _⟩
  · omega
  · exact ⟨g, cap, hv⟩
theorem own_form2 {w : World} {base e : Nat} {v : Value} {n : Nat} {xs : List Value} (h : w.ownsRow base e 1 v n xs) : v = .slice none 0 0 ∨ ∃ g cap, v = .slice (some ⟨g, 0, none⟩) n cap := by
  rcases h.2 with ⟨hv, _⟩ | ⟨g, cap, _, hv, _⟩
  · exact .inl hv
  · exact .inr ⟨g, cap, hv⟩

theorem six_own {W w : World} {vc v : Value} {r o g n : Nat} {f : Nat → Nat} {p : Int} {ae ac cp : Bool} {E : List Int} (h : MS W w r o g n f p ae ac cp vc v E) (u0 u1 u2 u3 u4 u5 : Value) :
    ((((((w.setCell ⟨o, 3, none⟩ u0).setCell ⟨r, 0, none⟩ u1).setCell ⟨r, 1, none⟩ u2).setCell ⟨r, 2, none⟩ u3).setCell ⟨r, 3, none⟩ u4).setCell ⟨r, 4, none⟩ u5).ownsRow W.heap.size 2 1 v E.length (ints E) := by
  have h1 : v.ownBlock ≠ some o := fun e => (h.ob o e).1 rfl
  have h2 : v.ownBlock ≠ some r := fun e => (h.ob r e).2.1 rfl
  exact own_set (own_set (own_set (own_set (own_set (own_set h.own _ _ h1) _ _ h2) _ _ h2) _ _ h2) _ _ h2) _ _ h2
theorem six_below {W w : World} {vc v : Value} {r o g n : Nat} {f : Nat → Nat} {p : Int} {ae ac cp : Bool} {E : List Int} (h : MS W w r o g n f p ae ac cp vc v E) (u0 u1 u2 u3 u4 u5 : Value) :
    Below W.heap.size W ((((((w.setCell ⟨o, 3, none⟩ u0).setCell ⟨r, 0, none⟩ u1).setCell ⟨r, 1, none⟩ u2).setCell ⟨r, 2, none⟩ u3).setCell ⟨r, 3, none⟩ u4).setCell ⟨r, 4, none⟩ u5) :=
  (((((h.bel.setCell h.oW _).setCell h.rW _).setCell h.rW _).setCell h.rW _).setCell h.rW _).setCell h.rW _

def R0 (f : Nat → Nat) (n : Nat) (p0 : Int) (ae ac cp : Bool) : Bool × Bool × List Int :=
  if ac = true ∧ f 0 = 10 then ml f n p0 (n + 1) 1 ae false (opt cp [] (p0 + 1)) else ml f n p0 (n + 1) 0 ae false (opt cp [] p0)
theorem FM_R0 (f : Nat → Nat) (n : Nat) (p0 : Int) (ae ac cp : Bool) (h : n ≠ 0) : FM f n p0 ae ac cp = ((R0 f n p0 ae ac cp).1, decide (f (n - 1) = 13), (R0 f n p0 ae ac cp).2.1, (R0 f n p0 ae ac cp).2.2) := by
  unfold FM R0
  rw [if_neg h]
  by_cases h1 : ac = true ∧ f 0 = 10
  · rw [if_pos h1, if_pos h1]
  · rw [if_neg h1, if_neg h1]

set_option maxRecDepth 100000 in
set_option maxHeartbeats 16000000 in
theorem model_row (g n : Nat) (f : Nat → Nat) (p0 : Int) (ae ac cp : Bool) (W : World) (hn : n ≤ 1048576) (hn0 : 1 ≤ n) (hp1 : -9223372036854775808 ≤ p0) (hp2 : p0 + n ≤ 9223372036854775807) (hby : Bytes W g n f) :
    Calls Try.prog 21 #[.int .i64 p0, .bool ae, .bool ac, .bool cp, .slice (some ⟨g, 0, none⟩) n n] W fun e w' => ∃ ae' ac' cp' out v, FM f n p0 ae ac cp = (ae', ac', cp', out) ∧ e = .returned (.agg #[v, .int .i64 (p0 + n), .bool ae', .bool ac', .bool cp']) ∧
      w'.ownsRow W.heap.size 2 1 v out.length (ints out) ∧ Below W.heap.size W w' ∧ out.length ≤ n + 1 := by
  obtain ⟨i0, hi0, hz0, hz1, hz2⟩ := info_parts info2
  have hnz : ((n : Int) == 0) = false := by simp; omega
  have HBY := hide hby
  have HRR : ∃ R, R0 f n p0 ae ac cp = R := ⟨_, rfl⟩
  obtain ⟨R, hR⟩ := HRR
  have HR := hide hR
  have HRZ := hide hR
  clear hby hR
  go_enter Try.func21, Try.ntmps21
  go_upto_region 11 with (fail)
  obtain ⟨W1, hW1⟩ : ∃ W1, W1 = ((W.alloc (.cells #[.slice none 0 0, .int .i64 0, .bool false, .bool false, .bool false] 35)).alloc (.cells #[.slice none 0 0, .int .i64 (p0 + (n : Int)), .bool false, .bool false, .bool false] 35)) := ⟨_, rfl⟩
  rw [← hW1]
  have HM : Hid (MS W W1 W.heap.size (W.heap.size + 1) g n f (p0 + (n : Int)) false false false (.slice none 0 0) (.slice none 0 0) []) := by rw [hW1]; exact ms_new W g n f (p0 + (n : Int)) HBY.out
  clear hW1
  obtain ⟨x0, x1, x2, x3, x4, y0, y1, y2, y3, y4, hol⟩ := HM.out.cells
  have hcb := HM.out.bys.cell (i := 0) (by omega)
  go_cut [39] (fun t39 wc => W1 = wc ∧ t39 = .bool (decide (ac = true ∧ f 0 = 10)))
  case first =>
    cases ac
    · go_wp2
      go_meet
      exact ⟨rfl, by simp⟩
    · by_cases h10 : f 0 = 10
      · have n10 : (((f 0 : Nat) : Int) == 10) = true := by simp; omega
        have H10 := hide h10
        clear h10
        go_wp2
        go_meet
        exact ⟨rfl, by have := H10.out; simp [this]⟩
      · have n10 : (((f 0 : Nat) : Int) == 10) = false := by simp; omega
        go_wp2
        go_meet
        exact ⟨rfl, by simp [h10]⟩
  case rest =>
    obtain ⟨rfl, rfl⟩ := hcut
    go_upto_if 39 with (fail)
    go_cut [13] (fun t13 wc => ∃ (i : Nat) (v : Value) (out : List Int), t13 = .int .i64 i ∧ i ≤ n ∧ i ≤ 1 ∧ out.length ≤ 1 ∧ MS W wc W.heap.size (W.heap.size + 1) g n f (p0 + (n : Int)) false false false v v out ∧ R = ml f n p0 (n + 1) i ae false out)
    case first =>
      have hbs2 := HM.out.bel.size
      have hlen : ([] : List Int).length + 1 ≤ 3000000 := by simp
      by_cases hA : ac = true ∧ f 0 = 10
      · have HAA := hide hA
        rw [decide_eq_true hA]
        clear hA
        cases cp
        · go_wp2
          go_meet
          exact ⟨1, .slice none 0 0, [], rfl, by omega, by omega, by simp, HM.out, by rw [← HR.out, R0, if_pos HAA.out]; rfl⟩
        · have hown2 := HM.out.own.alloc (.cells #[.int .i64 (p0 + 1)] 2)
          go_wp2_with (at_builtin; refine wpList_append_own_at _ rfl _ _ 26 rfl W.heap.size 2 i0 (.int .i64 0) 1 8 Try.underlying26 hi0 hz0 hz1 hz2 rfl (by decide) _ _ _ rfl hown2 ⟨W1.heap.size, 0, none⟩ 1 1 [.int .i64 (p0 + 1)] rfl rfl (cell_one_new _ _ _) (oneInt _) (by unfold maxLen; omega) (by omega) (by simp; omega) ?_; intro v' w5 hown' hgrow hnil hloc; obtain ⟨gq, cq, hvq⟩ := own_form hown'; subst hvq; have HM5 := hide (HM.out.app _ hown' hgrow hloc); clear hown' hgrow hnil hloc; obtain ⟨z0, z1, z2, z3, z4, y0', y1', y2', y3', y4', hol5⟩ := HM5.out.cells)
          go_meet
          exact ⟨1, _, [(p0 + 1)], rfl, by omega, by omega, by simp, HM5.out.setV _, by rw [← HR.out, R0, if_pos HAA.out]; rfl⟩
      · have HAA := hide hA
        rw [decide_eq_false hA]
        clear hA
        cases cp
        · go_wp2
          go_meet
          exact ⟨0, .slice none 0 0, [], rfl, by omega, by omega, by simp, HM.out, by rw [← HR.out, R0, if_neg HAA.out]; rfl⟩
        · have hown2 := HM.out.own.alloc (.cells #[.int .i64 p0] 2)
          go_wp2_with (at_builtin; refine wpList_append_own_at _ rfl _ _ 26 rfl W.heap.size 2 i0 (.int .i64 0) 1 8 Try.underlying26 hi0 hz0 hz1 hz2 rfl (by decide) _ _ _ rfl hown2 ⟨W1.heap.size, 0, none⟩ 1 1 [.int .i64 p0] rfl rfl (cell_one_new _ _ _) (oneInt _) (by unfold maxLen; omega) (by omega) (by simp; omega) ?_; intro v' w5 hown' hgrow hnil hloc; obtain ⟨gq, cq, hvq⟩ := own_form hown'; subst hvq; have HM5 := hide (HM.out.app _ hown' hgrow hloc); clear hown' hgrow hnil hloc; obtain ⟨z0, z1, z2, z3, z4, y0', y1', y2', y3', y4', hol5⟩ := HM5.out.cells)
          go_meet
          exact ⟨0, _, [p0], rfl, by omega, by omega, by simp, HM5.out.setV _, by rw [← HR.out, R0, if_neg HAA.out]; rfl⟩
    case rest =>
      obtain ⟨ii, v1, out1, rfl, hi1, hi2, ho1, hM1, hR1⟩ := hcut
      have HM1 := hide hM1
      have HR1 := hide hR1
      clear hM1 hR1 x0 x1 x2 x3 x4 y0 y1 y2 y3 y4 hol hcb HM HR
      go_wp2
      go_loopg [13, 14, 15, 16] (n + 1) (fun gk t13 t14 _ _ wx => ∃ (i : Nat) (op cpf : Bool) (v : Value) (out : List Int), i ≤ n ∧ n < i + gk ∧ t13 = .int .i64 i ∧ t14 = .bool op ∧ MS W wx W.heap.size (W.heap.size + 1) g n f (p0 + (n : Int)) false false cpf v v out ∧ out.length ≤ i + 1 ∧ R = ml f n p0 gk i op cpf out)
      case atStart => exact ⟨ii, ae, false, v1, out1, hi1, by omega, rfl, rfl, HM1.out, by omega, HR1.out⟩
      case round =>
        obtain ⟨i, op, cpf, v, out, hi, hig, rfl, rfl, hM, hout, hml⟩ := hrel
        have HM := hide hM
        have HR := hide hml
        clear hM hml HM1 HR1
        obtain ⟨gg, rfl⟩ : ∃ gg, gk = gg + 1 := ⟨gk - 1, by omega⟩
        obtain ⟨x0, x1, x2, x3, x4, y0, y1, y2, y3, y4, hol⟩ := HM.out.cells
        by_cases hlt : i < n
        · have hcb := HM.out.bys.cell hlt
          have hlt2 : (i : Int) < (n : Int) := by omega
          have hbs2 := HM.out.bel.size
          have hlen : out.length + 1 ≤ 3000000 := by omega
          by_cases h13 : f i = 13
          · have a13 : (((f i : Nat) : Int) == 13) = true := by simp; omega
            have b13 : (((f i : Nat) : Int) != 13) = false := by simp; omega
            have a10 : (((f i : Nat) : Int) == 10) = false := by simp; omega
            have H13 := hide h13
            clear h13
            by_cases h1 : i + 1 < n
            · have h1' : (i : Int) + 1 < (n : Int) := by omega
              have hcb1 := HM.out.bys.cell h1
              by_cases h10 : f (i + 1) = 10
              · have c10 : (((f (i + 1) : Nat) : Int) == 10) = true := by simp; omega
                have H10 := hide h10
                clear h10
                cases op
                · go_wp2
                  go_roundg gg
                  case measure => omega
                  case rel => exact ⟨i + 2, true, cpf, v, out, by omega, by omega, by go_num, rfl, HM.out, by omega, by rw [HR.out, ml_crlf hlt H13.out h1 H10.out]; rfl⟩
                · have hown2 := HM.out.own.alloc (.cells #[.int .i64 (p0 + ((i : Int) + 2))] 2)
                  go_wp2_with (at_builtin; refine wpList_append_own_at _ rfl _ _ 26 rfl W.heap.size 2 i0 (.int .i64 0) 1 8 Try.underlying26 hi0 hz0 hz1 hz2 rfl (by decide) _ _ _ rfl hown2 ⟨wr.heap.size, 0, none⟩ 1 1 [.int .i64 (p0 + ((i : Int) + 2))] rfl rfl (cell_one_new _ _ _) (oneInt _) (by unfold maxLen; omega) (by omega) (by simp; omega) ?_; intro v' w5 hown' hgrow hnil hloc; obtain ⟨gq, cq, hvq⟩ := own_form hown'; subst hvq; have HM5 := hide (HM.out.app _ hown' hgrow hloc); clear hown' hgrow hnil hloc; obtain ⟨z0, z1, z2, z3, z4, y0', y1', y2', y3', y4', hol5⟩ := HM5.out.cells)
                  go_roundg gg
                  case measure => omega
                  case rel => exact ⟨i + 2, false, cpf, _, opt true out (p0 + ((i + 2 : Nat) : Int)), by omega, by omega, by go_num, rfl, (HM5.out.setV _).cast rfl (by simp [opt]), by have := opt_len true out (p0 + ((i + 2 : Nat) : Int)); omega, by rw [HR.out, ml_crlf hlt H13.out h1 H10.out]; rfl⟩
              · have c10 : (((f (i + 1) : Nat) : Int) == 10) = false := by simp; omega
                have hne : ((i : Int) + 1 == (n : Int)) = false := by simp; omega
                have H10 := hide h10
                clear h10
                cases op
                · go_wp2
                  go_roundg gg
                  case measure => omega
                  case rel => exact ⟨i + 1, true, cpf, v, out, by omega, by omega, by go_num, rfl, HM.out, by omega, by rw [HR.out, ml_le hlt (.inl H13.out) (fun x => H10.out x.2.2) (fun x => by omega)]; rfl⟩
                · have hown2 := HM.out.own.alloc (.cells #[.int .i64 (p0 + ((i : Int) + 1))] 2)
                  go_wp2_with (at_builtin; refine wpList_append_own_at _ rfl _ _ 26 rfl W.heap.size 2 i0 (.int .i64 0) 1 8 Try.underlying26 hi0 hz0 hz1 hz2 rfl (by decide) _ _ _ rfl hown2 ⟨wr.heap.size, 0, none⟩ 1 1 [.int .i64 (p0 + ((i : Int) + 1))] rfl rfl (cell_one_new _ _ _) (oneInt _) (by unfold maxLen; omega) (by omega) (by simp; omega) ?_; intro v' w5 hown' hgrow hnil hloc; obtain ⟨gq, cq, hvq⟩ := own_form hown'; subst hvq; have HM5 := hide (HM.out.app _ hown' hgrow hloc); clear hown' hgrow hnil hloc; obtain ⟨z0, z1, z2, z3, z4, y0', y1', y2', y3', y4', hol5⟩ := HM5.out.cells)
                  go_roundg gg
                  case measure => omega
                  case rel => exact ⟨i + 1, false, cpf, _, opt true out (p0 + ((i + 1 : Nat) : Int)), by omega, by omega, by go_num, rfl, (HM5.out.setV _).cast rfl (by simp [opt]), by have := opt_len true out (p0 + ((i + 1 : Nat) : Int)); omega, by rw [HR.out, ml_le hlt (.inl H13.out) (fun x => H10.out x.2.2) (fun x => by omega)]; rfl⟩
            · have h1' : ¬ (i : Int) + 1 < (n : Int) := by omega
              have heq : ((i : Int) + 1 == (n : Int)) = true := by simp; omega
              cases op
              · go_wp2
                go_roundg gg
                case measure => omega
                case rel => exact ⟨i + 1, true, cpf, v, out, by omega, by omega, by go_num, rfl, HM.out, by omega, by rw [HR.out, ml_le hlt (.inl H13.out) (fun x => h1 x.2.1) (fun x => by cases x.2.1)]; rfl⟩
              · go_wp2
                go_roundg gg
                case measure => omega
                case rel => exact ⟨i + 1, false, true, v, out, by omega, by omega, by go_num, rfl, HM.out.setCp true, by omega, by rw [HR.out, ml_pend hlt H13.out (by omega)]⟩
          · have a13 : (((f i : Nat) : Int) == 13) = false := by simp; omega
            have b13 : (((f i : Nat) : Int) != 13) = true := by simp; omega
            have H13 := hide h13
            by_cases h10 : f i = 10
            · have a10 : (((f i : Nat) : Int) == 10) = true := by simp; omega
              have b10 : (((f i : Nat) : Int) != 10) = false := by simp; omega
              have H10 := hide h10
              clear h10 h13
              cases op
              · go_wp2
                go_roundg gg
                case measure => omega
                case rel => exact ⟨i + 1, true, cpf, v, out, by omega, by omega, by go_num, rfl, HM.out, by omega, by rw [HR.out, ml_le hlt (.inr H10.out) (fun x => H13.out x.1) (fun x => H13.out x.1)]; rfl⟩
              · have hown2 := HM.out.own.alloc (.cells #[.int .i64 (p0 + ((i : Int) + 1))] 2)
                go_wp2_with (at_builtin; refine wpList_append_own_at _ rfl _ _ 26 rfl W.heap.size 2 i0 (.int .i64 0) 1 8 Try.underlying26 hi0 hz0 hz1 hz2 rfl (by decide) _ _ _ rfl hown2 ⟨wr.heap.size, 0, none⟩ 1 1 [.int .i64 (p0 + ((i : Int) + 1))] rfl rfl (cell_one_new _ _ _) (oneInt _) (by unfold maxLen; omega) (by omega) (by simp; omega) ?_; intro v' w5 hown' hgrow hnil hloc; obtain ⟨gq, cq, hvq⟩ := own_form hown'; subst hvq; have HM5 := hide (HM.out.app _ hown' hgrow hloc); clear hown' hgrow hnil hloc; obtain ⟨z0, z1, z2, z3, z4, y0', y1', y2', y3', y4', hol5⟩ := HM5.out.cells)
                go_roundg gg
                case measure => omega
                case rel => exact ⟨i + 1, false, cpf, _, opt true out (p0 + ((i + 1 : Nat) : Int)), by omega, by omega, by go_num, rfl, (HM5.out.setV _).cast rfl (by simp [opt]), by have := opt_len true out (p0 + ((i + 1 : Nat) : Int)); omega, by rw [HR.out, ml_le hlt (.inr H10.out) (fun x => H13.out x.1) (fun x => H13.out x.1)]; rfl⟩
            · have a10 : (((f i : Nat) : Int) == 10) = false := by simp; omega
              have b10 : (((f i : Nat) : Int) != 10) = true := by simp; omega
              have H10 := hide h10
              clear h10 h13
              go_wp2
              go_roundg gg
              case measure => omega
              case rel => exact ⟨i + 1, false, cpf, v, out, by omega, by omega, by go_num, rfl, HM.out, by omega, by rw [HR.out, ml_txt hlt H13.out H10.out]⟩
        · obtain rfl : i = n := by omega
          have hnl : i - 1 < i := by omega
          have hi1 : ((i : Int) - 1).toNat = i - 1 := by omega
          have g2 : 0 ≤ (i : Int) - 1 := by omega
          have g3 : (i : Int) - 1 < (i : Int) := by omega
          have hd : (((f (i - 1) : Nat) : Int) == 13) = decide (f (i - 1) = 13) := by rw [Bool.eq_iff_iff]; simp; omega
          have hml : R = (op, cpf, out) := by rw [HR.out, ml_end (Nat.le_refl _)]
          have HML := hide hml
          clear hml
          go_upto_region 35 with (fail)
          obtain ⟨W2, hW2⟩ : ∃ W2, W2 = wr.setCell ⟨W.heap.size + 1, 2, none⟩ (.bool op) := ⟨_, rfl⟩
          rw [← hW2]
          have HM2 : Hid (MS W W2 W.heap.size (W.heap.size + 1) g i f (p0 + (i : Int)) op false cpf v v out) := by rw [hW2]; exact HM.out.setAe op
          clear hW2 x0 x1 x2 x3 x4 y0 y1 y2 y3 y4 hol
          obtain ⟨x0, x1, x2, x3, x4, y0, y1, y2, y3, y4, hol⟩ := HM2.out.cells
          obtain ⟨r0, r1, r2, r3, r4, s0, s1, s2, s3, s4, hrl⟩ := HM2.out.rcells
          have hcb := HM2.out.bys.cell hnl
          obtain ⟨dd, hdd⟩ : ∃ dd, decide (f (i - 1) = 13) = dd := ⟨_, rfl⟩
          rw [hdd] at hd
          have HDD := hide hdd
          clear hdd
          rcases own_form2 HM2.out.own with hv | ⟨gq, cq, hv⟩
          all_goals
            subst hv
            go_wp2
            exact bodyPost_ret (v := .agg #[_, .int .i64 (p0 + (i : Int)), .bool op, .bool dd, .bool cpf]) (by simp [results, Try.results21, go_sem, r0, r1, r2, r3, r4]) rfl ⟨op, dd, cpf, out, _, (by rw [FM_R0 _ _ _ _ _ _ (by omega), HRZ.out, HML.out, HDD.out]), rfl, six_own HM2.out _ _ _ _ _ _, six_below HM2.out _ _ _ _ _ _, hout⟩
end Go.Proofs.Qxb6602222a

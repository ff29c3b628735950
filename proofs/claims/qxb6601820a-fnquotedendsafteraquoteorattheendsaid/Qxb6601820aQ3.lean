import Derived.Test.Qxb6601820aQ2
import Derived.Deep.RegionWith
import Derived.Deep.DeepCutAuto
namespace Go.Proofs.Qxb6601820a
open Go.RowKit

def co (s : ByteArray) (p : Nat) : Nat := match ct (bt s) s.size (s.size + 1) false p with | none => 0 | some q => q - p

theorem cont_at (s : ByteArray) (p : Nat) (w : World) (hs : s.size < 4294967281) (hp : p ≤ s.size) :
    Calls Try.prog 20 #[.string (s.extract p s.size)] w fun e w' => e = .returned (.int .i64 (co s p)) ∧ Below w.heap.size w w' := by
  have hsz : (s.extract p s.size).size = s.size - p := size_extract s p s.size (Nat.le_refl _)
  refine (cont_any _ w (by omega)).mono fun e w' ⟨he, hb⟩ => ⟨?_, hb⟩
  rw [he]
  refine ret_int ?_
  unfold ctN co
  rw [bt_shift s p hp, hsz, ct_shift (bt s) s.size p hp, show p + 0 = p from rfl, ct_fuel (bt s) s.size (s.size - p + 1) (s.size + 1) false p (by omega) (by omega)]
  cases ct (bt s) s.size (s.size + 1) false p <;> rfl

theorem qd_end {b : Nat → Nat} {n f p : Nat} {bs : Bool} (h : ¬ p < n) : qd b n bs (f + 1) p = n := by unfold qd; rw [if_neg h]
theorem qd_bsl {b : Nat → Nat} {n f p : Nat} {bs : Bool} (h : p < n) (h1 : b p = 92 ∧ bs = true) : qd b n bs (f + 1) p = qd b n bs f (p + 2) := by
  conv => lhs; unfold qd
  rw [if_pos h, if_pos h1]
theorem qd_txt {b : Nat → Nat} {n f p : Nat} {bs : Bool} (h : p < n) (h1 : ¬ (b p = 92 ∧ bs = true)) (h2 : b p ≠ 39) : qd b n bs (f + 1) p = qd b n bs f (p + 1) := by
  conv => lhs; unfold qd
  rw [if_pos h, if_neg h1, if_pos h2]
theorem qd_dbl {b : Nat → Nat} {n f p : Nat} {bs : Bool} (h : p < n) (h2 : b p = 39) (h3 : b (p + 1) = 39) : qd b n bs (f + 1) p = qd b n bs f (p + 2) := by
  conv => lhs; unfold qd
  rw [if_pos h, if_neg (by omega), if_neg (by omega), if_pos h3]
theorem qd_stop {b : Nat → Nat} {n f p : Nat} {bs : Bool} (h : p < n) (h2 : b p = 39) (h3 : b (p + 1) ≠ 39) (h4 : ct b n (n + 1) false (p + 1) = none) : qd b n bs (f + 1) p = p + 1 := by
  conv => lhs; unfold qd
  rw [if_pos h, if_neg (by omega), if_neg (by omega), if_neg h3, h4]
theorem qd_cont {b : Nat → Nat} {n f p q : Nat} {bs : Bool} (h : p < n) (h2 : b p = 39) (h3 : b (p + 1) ≠ 39) (h4 : ct b n (n + 1) false (p + 1) = some q) : qd b n bs (f + 1) p = qd b n bs f q := by
  conv => lhs; unfold qd
  rw [if_pos h, if_neg (by omega), if_neg (by omega), if_neg h3, h4]

/-- the lexer lies in block b -/
def Lex (w : World) (b : Nat) (s : ByteArray) (p : Nat) : Prop :=
  w.cell? ⟨b, 0, none⟩ = some (.string s) ∧ w.cell? ⟨b, 1, none⟩ = some (.int .i64 p) ∧ w.frozen? ⟨b, 1, none⟩ = false ∧ b < w.heap.size
theorem Lex.drewN {w : World} {b : Nat} {s : ByteArray} {p : Nat} (h : Lex w b s p) (n : Nat) : Lex (w.drewN n) b s p := h
theorem Lex.drew {w : World} {b : Nat} {s : ByteArray} {p : Nat} (h : Lex w b s p) : Lex w.drew b s p := h
theorem Lex.set {w : World} {b : Nat} {s : ByteArray} {p : Nat} (h : Lex w b s p) (v : Value) (q : Nat) (hv : v = .int .i64 q) : Lex (w.setCell ⟨b, 1, none⟩ v) b s q := by
  subst hv
  refine ⟨?_, World.cell?_setCell_same w _ _ h.2.1, ?_, ?_⟩
  · rw [World.cell?_setCell_other w _ _ _ (by simp)]; exact h.1
  · rw [World.frozen?_setCell]; exact h.2.2.1
  · have := h.2.2.2; simpa [World.setCell] using this
theorem Lex.below {w w' : World} {b B : Nat} {s : ByteArray} {p : Nat} (h : Lex w b s p) (hb : Below B w w') (hB : b < B) : Lex w' b s p :=
  ⟨(hb.cell (p := ⟨b, 0, none⟩) hB).trans h.1, (hb.cell (p := ⟨b, 1, none⟩) hB).trans h.2.1, (hb.frozen (p := ⟨b, 1, none⟩) hB).trans h.2.2.1, Nat.lt_of_lt_of_le h.2.2.2 hb.size⟩

theorem qd_fin {s : ByteArray} {b p g k q : Nat} {bs : Bool} {w wx : World} (HN : Hid (qd (bt s) s.size bs (s.size + 2) p = qd (bt s) s.size bs g k)) (h : qd (bt s) s.size bs g k = q) (hP : Lex wx b s q) (hB : Below b w wx) :
    Ending.returned (.tuple #[]) = .returned (.tuple #[]) ∧ Lex wx b s (qd (bt s) s.size bs (s.size + 2) p) ∧ Below b w wx := by
  have e := HN.out
  rw [h] at e
  rw [e]
  exact ⟨rfl, hP, hB⟩

theorem sum_eq {k q : Nat} : Value.int .i64 ((k : Int) + 1 + ((q : Int) - ((k : Int) + 1))) = .int .i64 q := by
  rw [show ((k : Int) + 1 + ((q : Int) - ((k : Int) + 1))) = q by omega]

set_option maxRecDepth 100000 in
set_option maxHeartbeats 4000000 in
theorem quoted_any (s : ByteArray) (b p : Nat) (bs : Bool) (w : World) (hs : s.size < 4294967281) (hp : p ≤ s.size) (hP : Lex w b s p) :
    Calls Try.prog 17 #[.pointer (some ⟨b, 0, none⟩), .bool bs] w fun e w' => e = .returned (.tuple #[]) ∧ Lex w' b s (qd (bt s) s.size bs (s.size + 2) p) ∧ Below b w w' := by
  go_enter Try.func17, Try.ntmps17
  go_wp2
  go_loopg [4, 5] (s.size + 2) (fun g _ _ wx => ∃ k : Nat, k ≤ s.size + 1 ∧ s.size + 1 < k + g ∧ Lex wx b s k ∧ Below b w wx ∧ qd (bt s) s.size bs (s.size + 2) p = qd (bt s) s.size bs g k)
  case atStart => exact ⟨p, by omega, by omega, hP, Below.refl _ _, rfl⟩
  case round =>
    obtain ⟨k, hk, hkg, hP1, hbel, hnl⟩ := hrel
    have HP := hide hP1
    obtain ⟨hc0, hc1, hf1, hbs⟩ := hP1
    have HB := hide hbel
    have HN := hide hnl
    clear hbel hnl hP
    obtain ⟨g, rfl⟩ : ∃ g, gk = g + 1 := ⟨gk - 1, by omega⟩
    by_cases hlt : k < s.size
    · have hlt2 : (k : Int) < (s.size : Int) := by omega
      have HR : ∃ R, s.extract k s.size = R ∧ 0 < R.size ∧ (∀ h : 0 < R.size, (R[0]'h).toNat = bt s k) ∧
          (∀ wx, Calls Try.prog 19 #[.string R, .string { data := #[39, 39] }] wx fun e w' => e = .returned (.bool (decide (bt s k = 39 ∧ bt s (k + 1) = 39))) ∧ w' = wx) := by
        have hz : (s.extract k s.size).size = s.size - k := size_extract s k s.size (Nat.le_refl _)
        refine ⟨_, rfl, by omega, fun h => ?_, fun wx => prefix_at s k wx 39 39 (by omega)⟩
        rw [← bt_in h, bt_extract s k s.size 0 (Nat.le_refl _) (by omega)]
        rfl
      obtain ⟨R, hR, hR0, hRb0, hRP⟩ := HR
      have hRb := hRb0 hR0
      have hR0' : (0 : Int) < (R.size : Int) := by omega
      have HRP := hide hRP
      clear hRb0 hRP
      go_wp2
      go_quiet (fail)
      go_wp2
      go_quiet (fail)
      by_cases h39 : bt s k = 39
      · have H39 := hide h39
        have n92 : (((bt s k : Nat) : Int) == 92) = false := by simp; omega
        have n39 : (((bt s k : Nat) : Int) != 39) = false := by simp; omega
        clear h39
        by_cases h2 : bt s (k + 1) = 39
        · have H2 := hide h2
          rw [decide_eq_true ⟨H39.out, h2⟩] at HRP
          have hk1 : k + 1 < s.size := Nat.lt_of_not_le fun hn => by have := bt_out hn; omega
          clear h2
          go_wp2_with (go_at_call 19; refine (HRP.out _).mono ?_; rintro e w1 ⟨rfl, hw⟩; obtain rfl := hw.symm)
          go_roundg g
          case measure => omega
          case rel => exact ⟨k + 2, by omega, by omega, Lex.drewN (HP.out.set _ _ (by go_num)) _, below_drewN (HB.out.setCell (Nat.le_refl _) _) _, by rw [HN.out, qd_dbl hlt H39.out H2.out]⟩
        · have H2 := hide h2
          rw [decide_eq_false (fun x => h2 x.2)] at HRP
          clear h2
          have hco := fun wx => cont_at s (k + 1) wx hs (by omega)
          have HCO := hide hco
          clear hco
          go_wp2_with (go_at_call 19; refine (HRP.out _).mono ?_; rintro e w1 ⟨rfl, hw⟩; obtain rfl := hw.symm)
          have hz1 : (k : Int) + 1 ≤ (s.size : Int) := by omega
          have hz0 : 0 ≤ (k : Int) + 1 := by omega
          have HX := hide (fun n => (HP.out.drewN n).set (.int .i64 ((k : Int) + 1)) (k + 1) (by go_num))
          have HY := hide (fun n => (below_drewN HB.out n).setCell (Nat.le_refl b) (p := ⟨b, 1, none⟩) (.int .i64 ((k : Int) + 1)))
          cases hct : ct (bt s) s.size (s.size + 1) false (k + 1) with
          | none =>
            have hz : co s (k + 1) = 0 := by unfold co; rw [hct]
            have HCT := hide hct
            clear hct
            rw [hz] at HCO
            clear hz
            have hCO2 : ∀ wx, Lex wx b s (k + 1) → Calls Try.prog 20 #[.string (s.extract (k + 1) s.size)] wx fun e w' => e = .returned (.int .i64 0) ∧ Lex w' b s (k + 1) ∧ Below b wx w' := fun wx hx => (HCO.out wx).mono fun e w' ⟨h1, h2⟩ => ⟨h1, hx.below h2 hx.2.2.2, h2.mono (Nat.le_of_lt hx.2.2.2)⟩
            have HCO2 := hide hCO2
            clear hCO2
            go_region_with (go_at_call 20; refine (HCO2.out _ (by exact HX.out _)).mono ?_; rintro e w1 ⟨rfl, ⟨k0, k1, kf, kb⟩, hb1⟩)
            all_goals
              go_wp2
              refine bodyPost_ret (results_none rfl _ _ _) rfl ?_
              exact qd_fin HN (qd_stop hlt H39.out H2.out HCT.out) ⟨k0, k1, kf, kb⟩ ((HY.out _).drew.trans hb1)
          | some q =>
            have hq := ct_gt _ _ _ _ _ _ hct
            have hz : co s (k + 1) = q - (k + 1) := by unfold co; rw [hct]
            have HCT := hide hct
            clear hct
            rw [hz] at HCO
            clear hz
            have hnz : (((q - (k + 1) : Nat) : Int) == 0) = false := by simp; omega
            have hCO2 : ∀ wx, Lex wx b s (k + 1) → Calls Try.prog 20 #[.string (s.extract (k + 1) s.size)] wx fun e w' => e = .returned (.int .i64 ((q - (k + 1) : Nat) : Int)) ∧ Lex w' b s (k + 1) ∧ Below b wx w' := fun wx hx => (HCO.out wx).mono fun e w' ⟨h1, h2⟩ => ⟨h1, hx.below h2 hx.2.2.2, h2.mono (Nat.le_of_lt hx.2.2.2)⟩
            have HCO2 := hide hCO2
            clear hCO2
            go_region_with (go_at_call 20; refine (HCO2.out _ (by exact HX.out _)).mono ?_; rintro e w1 ⟨rfl, ⟨k0, k1, kf, kb⟩, hb1⟩)
            all_goals
              go_wp2
              go_roundg g
              case measure => omega
              case rel => exact ⟨q, by omega, by omega, Lex.set (w := w1) ⟨k0, k1, kf, kb⟩ _ _ (by first | (rw [show ((k : Int) + 1 + ((q - (k + 1) : Nat) : Int)) = (q : Int) by omega]) | exact sum_eq), (Below.trans (HY.out _).drew hb1).setCell (Nat.le_refl _) _, by rw [HN.out, qd_cont hlt H39.out H2.out HCT.out]⟩
      · have n39 : (((bt s k : Nat) : Int) != 39) = true := by simp; omega
        by_cases h92 : bt s k = 92
        · have n92 : (((bt s k : Nat) : Int) == 92) = true := by simp; omega
          have H92 := hide h92
          have H39 := hide h39
          clear h92 h39
          cases bs
          · go_wp2
            go_roundg g
            case measure => omega
            case rel => exact ⟨k + 1, by omega, by omega, Lex.drewN (HP.out.set _ _ (by go_num)) _, below_drewN (HB.out.setCell (Nat.le_refl _) _) _, by rw [HN.out, qd_txt hlt (fun x => by cases x.2) H39.out]⟩
          · go_wp2
            go_roundg g
            case measure => omega
            case rel => exact ⟨k + 2, by omega, by omega, Lex.drewN (HP.out.set _ _ (by go_num)) _, below_drewN (HB.out.setCell (Nat.le_refl _) _) _, by rw [HN.out, qd_bsl hlt ⟨H92.out, rfl⟩]⟩
        · have n92 : (((bt s k : Nat) : Int) == 92) = false := by simp; omega
          go_wp2
          go_roundg g
          case measure => omega
          case rel => exact ⟨k + 1, by omega, by omega, Lex.drewN (HP.out.set _ _ (by go_num)) _, below_drewN (HB.out.setCell (Nat.le_refl _) _) _, by rw [HN.out, qd_txt hlt (fun x => h92 x.1) h39]⟩
    · have hlt2 : ¬ (k : Int) < (s.size : Int) := by omega
      go_wp2
      go_quiet (fail)
      go_wp2
      go_end0
      exact qd_fin HN (qd_end hlt) (Lex.drewN (HP.out.set _ _ rfl) _) (below_drewN (HB.out.setCell (Nat.le_refl _) _) _)
end Go.Proofs.Qxb6601820a

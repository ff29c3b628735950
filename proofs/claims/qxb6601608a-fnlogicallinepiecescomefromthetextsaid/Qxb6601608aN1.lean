import Derived.Test.Qxb6601608aW2
import Derived.Deep.RegionHeld3
import Derived.Deep.DeepCutAuto
import Derived.Deep.RegionWith
import Derived.BigRegion
namespace Go.Proofs.Qxb6601608a
open Go.RowKit

/-- nextLine, by positions -/
def nl (s : ByteArray) : Nat → Nat → Nat × Bool
  | 0, p => (p, false)
  | f + 1, p =>
    if skipS s p = s.size then (skipS s p, false)
    else if le (bt s (skipS s p)) then nl s f (skipS s p + 1)
    else if bt s (skipS s p) = 35 ∨ bt s (skipS s p) = 33 then nl s f (lineE s (skipS s p))
    else if lineE s (skipS s p) = skipS s p + 1 ∧ bt s (skipS s p) = 92 ∧ lastL s (skipS s p) = false then nl s f (skipL s (skipS s p + 1))
    else (skipS s p, true)

theorem bcell {B : Nat} {W w1 : World} (hb : Below B W w1) : (∀ b o, b < B → w1.cell? ⟨b, o, none⟩ = W.cell? ⟨b, o, none⟩) ∧ (∀ b o, b < B → w1.frozen? ⟨b, o, none⟩ = W.frozen? ⟨b, o, none⟩) :=
  ⟨fun b o h => hb.cell (p := ⟨b, o, none⟩) h, fun b o h => hb.frozen (p := ⟨b, o, none⟩) h⟩

/-- the parser lies in block b: its text, its place; it may be written -/
def Pars (w : World) (b : Nat) (s : ByteArray) (p : Nat) : Prop :=
  w.cell? ⟨b, 0, none⟩ = some (.string s) ∧ w.cell? ⟨b, 1, none⟩ = some (.int .i64 p) ∧ w.frozen? ⟨b, 1, none⟩ = false ∧ b < w.heap.size

theorem Pars.drew {w : World} {b : Nat} {s : ByteArray} {p : Nat} (h : Pars w b s p) : Pars w.drew b s p := h
theorem Pars.set {w : World} {b : Nat} {s : ByteArray} {p : Nat} (h : Pars w b s p) (v : Value) (q : Nat) (hv : v = .int .i64 q) : Pars (w.setCell ⟨b, 1, none⟩ v) b s q := by
  subst hv
  refine ⟨?_, World.cell?_setCell_same w _ _ h.2.1, ?_, ?_⟩
  · rw [World.cell?_setCell_other w _ _ _ (by simp)]; exact h.1
  · rw [World.frozen?_setCell]; exact h.2.2.1
  · have := h.2.2.2; simpa [World.setCell] using this
theorem Pars.below {w w' : World} {b B : Nat} {s : ByteArray} {p : Nat} (h : Pars w b s p) (hb : Below B w w') (hB : b < B) : Pars w' b s p :=
  ⟨(hb.cell (p := ⟨b, 0, none⟩) hB).trans h.1, (hb.cell (p := ⟨b, 1, none⟩) hB).trans h.2.1, (hb.frozen (p := ⟨b, 1, none⟩) hB).trans h.2.2.1, Nat.lt_of_lt_of_le h.2.2.2 hb.size⟩

theorem nl_end {s : ByteArray} {g k q : Nat} (hq : skipS s k = q) (h : q = s.size) : nl s (g + 1) k = (q, false) := by
  subst hq; rw [nl, if_pos h]
theorem nl_le {s : ByteArray} {g k q : Nat} (hq : skipS s k = q) (h : q ≠ s.size) (h1 : le (bt s q) = true) : nl s (g + 1) k = nl s g (q + 1) := by
  subst hq; rw [nl, if_neg h, if_pos h1]
theorem nl_com {s : ByteArray} {g k q : Nat} (hq : skipS s k = q) (h : q ≠ s.size) (h1 : le (bt s q) = false) (h2 : bt s q = 35 ∨ bt s q = 33) : nl s (g + 1) k = nl s g (lineE s q) := by
  subst hq; rw [nl, if_neg h, if_neg (by rw [h1]; exact Bool.false_ne_true), if_pos h2]
theorem nl_bsl {s : ByteArray} {g k q : Nat} (hq : skipS s k = q) (h : q ≠ s.size) (h1 : le (bt s q) = false) (h2 : ¬ (bt s q = 35 ∨ bt s q = 33)) (h3 : lineE s q = q + 1 ∧ bt s q = 92 ∧ lastL s q = false) : nl s (g + 1) k = nl s g (skipL s (q + 1)) := by
  subst hq; rw [nl, if_neg h, if_neg (by rw [h1]; exact Bool.false_ne_true), if_neg h2, if_pos h3]
theorem nl_hit {s : ByteArray} {g k q : Nat} (hq : skipS s k = q) (h : q ≠ s.size) (h1 : le (bt s q) = false) (h2 : ¬ (bt s q = 35 ∨ bt s q = 33)) (h3 : ¬ (lineE s q = q + 1 ∧ bt s q = 92 ∧ lastL s q = false)) : nl s (g + 1) k = (q, true) := by
  subst hq; rw [nl, if_neg h, if_neg (by rw [h1]; exact Bool.false_ne_true), if_neg h2, if_neg h3]

theorem Pars.drewN {w : World} {b : Nat} {s : ByteArray} {p : Nat} (h : Pars w b s p) (n : Nat) : Pars (w.drewN n) b s p := h

theorem nl_fin {s : ByteArray} {b p g k q : Nat} {w wx : World} {v : Bool} (HN : Hid (nl s (s.size + 1) p = nl s g k)) (h : nl s g k = (q, v)) (hP : Pars wx b s q) (hB : Below b w wx) :
    Ending.returned (.bool v) = .returned (.bool (nl s (s.size + 1) p).2) ∧ Pars wx b s (nl s (s.size + 1) p).1 ∧ Below b w wx := by
  have e := HN.out
  rw [h] at e
  rw [e]
  exact ⟨rfl, hP, hB⟩

theorem wr_eq {x : Int} {n : Nat} (h : x = n) (hn : n < 4611686018427387904) : Value.int .i64 (IntKind.i64.wrap x) = .int .i64 n := by
  subst h; rw [wrap_small _ (by omega) (by omega)]

set_option maxRecDepth 100000 in
set_option maxHeartbeats 4000000 in
theorem nextLine_any (s : ByteArray) (b p : Nat) (w : World) (hs : s.size < 4294967281) (hp : p ≤ s.size) (hP : Pars w b s p) :
    Calls Try.prog 29 #[.pointer (some ⟨b, 0, none⟩)] w fun e w' => e = .returned (.bool (nl s (s.size + 1) p).2) ∧ Pars w' b s (nl s (s.size + 1) p).1 ∧ Below b w w' := by
  have hs' : s.size ≤ maxLen := by unfold maxLen; omega
  go_enter Try.func29, Try.ntmps29
  go_wp2
  go_loopg [] (s.size + 1) (fun g wx => ∃ k : Nat, k ≤ s.size ∧ s.size < k + g ∧ Pars wx b s k ∧ Below b w wx ∧ nl s (s.size + 1) p = nl s g k)
  case atStart => exact ⟨p, hp, by omega, hP, Below.refl _ _, rfl⟩
  case round =>
    obtain ⟨k, hk, hkg, hP1, hbel, hnl⟩ := hrel
    have HP := hide hP1
    obtain ⟨hc0, hc1, hf1, hbs⟩ := hP1
    have HB := hide hbel
    have HN := hide hnl
    clear hbel hnl hP
    have hq1 := skipS_ge s k
    have hq2 := skipS_le hk
    go_wp2
    go_cut [] (fun wc => Pars wc b s (skipS s k) ∧ Below b w wc)
    case first =>
      go_region_with (go_at_call 36; refine (skipSpace_any _ _ _ hs' hk).mono ?_; rintro e w' ⟨rfl, rfl⟩)
      all_goals (go_wp2; go_meet; exact ⟨(Pars.set HP.out _ _ rfl).drew, (HB.out.setCell (Nat.le_refl _) _).drew⟩)
    case rest =>
      clear hc0 hc1 hf1 hbs HP HB
      obtain ⟨hP1, hbel⟩ := hcut
      have HP := hide hP1
      obtain ⟨hc0, hc1, hf1, hbs⟩ := hP1
      have HB := hide hbel
      clear hbel
      obtain ⟨g, rfl⟩ : ∃ g, gk = g + 1 := ⟨gk - 1, by omega⟩
      obtain ⟨q, hq⟩ : ∃ q, skipS s k = q := ⟨_, rfl⟩
      rw [hq] at hq1 hq2 HP hc1
      have HQ := hide hq
      clear hq
      by_cases hqe : q = s.size
      · have e1 : ((q : Int) == (s.size : Int)) = true := by simp; omega
        have HE := hide hqe
        clear hqe
        go_wp2
        go_quiet (fail)
        go_wp2
        go_ret
        exact nl_fin HN (nl_end HQ.out HE.out) (HP.out.drewN _) (below_drewN HB.out _)
      · have e1 : ((q : Int) == (s.size : Int)) = false := by simp; omega
        have hqlt : q < s.size := by omega
        have HR : ∃ R, s.extract q s.size = R ∧ 0 < R.size ∧ (∀ h : 0 < R.size, (R[0]'h).toNat = bt s q) ∧
            (∀ wx, Pars wx b s q → Calls Try.prog 37 #[.string R] wx fun e w' => e = .returned (.int .i64 ((lineE s q : Int) - q)) ∧ Pars w' b s q ∧ Below b wx w') ∧
            (∀ wx, Pars wx b s q → Calls Try.prog 38 #[.string R] wx fun e w' => e = .returned (.bool (lastL s q)) ∧ Pars w' b s q ∧ Below b wx w') := by
          have hz : (s.extract q s.size).size = s.size - q := size_extract s q s.size (Nat.le_refl _)
          refine ⟨_, rfl, by omega, fun h => ?_, fun wx hx => (lineLength_at s q wx hs hq2).mono fun e w' ⟨h1, h2⟩ => ⟨h1, hx.below h2 hx.2.2.2, h2.mono (Nat.le_of_lt hx.2.2.2)⟩, fun wx hx => (lastLine_at s q wx hs hqlt).mono fun e w' ⟨h1, h2⟩ => ⟨h1, hx.below h2 hx.2.2.2, h2.mono (Nat.le_of_lt hx.2.2.2)⟩⟩
          rw [← bt_in h, bt_extract s q s.size 0 (Nat.le_refl _) (by omega)]
          rfl
        obtain ⟨R, hR, hR0, hRb0, hRL, hRLL⟩ := HR
        have hRb := hRb0 hR0
        have hR0' : (0 : Int) < (R.size : Int) := by omega
        clear hRb0
        have HL := hide hRL
        have HLL := hide hRLL
        clear hRL hRLL
        have hE1 := lineE_le (s := s) hq2
        have hE2 := lineE_ge s q
        go_wp2
        go_quiet (fail)
        go_wp2
        go_quiet (fail)
        cases hle : le (bt s q)
        · have n10 : (((bt s q : Nat) : Int) == 10) = false := by have := (le_false hle).1; simp; omega
          have n13 : (((bt s q : Nat) : Int) == 13) = false := by have := (le_false hle).2; simp; omega
          have HLE := hide hle
          have hne := (le_false hle)
          clear hle
          have hE3 : q < lineE s q := by
            have h := first_step (p := fun j => le (bt s j)) hqlt HLE.out
            have h2 := first_ge (fun j => le (bt s j)) s.size (q + 1)
            unfold lineE
            omega
          by_cases hcom : bt s q = 35 ∨ bt s q = 33
          · have HC := hide hcom
            by_cases h35 : bt s q = 35
            · have n35 : (((bt s q : Nat) : Int) == 35) = true := by simp; omega
              clear h35 hcom hne
              go_wp2
              go_region_with (go_at_call 37; refine (HL.out _ (by exact HP.out.drewN _)).mono ?_; rintro e w1 ⟨rfl, ⟨k0, k1, kf, kb⟩, hb1⟩)
              all_goals
                go_wp2
                go_roundg g
                case measure => omega
                case rel => exact ⟨lineE s q, hE1, by omega, Pars.set ⟨k0, k1, kf, kb⟩ _ _ (wr_eq (by omega) (by omega)), ((below_drewN HB.out _).trans hb1).setCell (Nat.le_refl _) _, by rw [HN.out, nl_com HQ.out hqe HLE.out HC.out]⟩
            · have n35 : (((bt s q : Nat) : Int) == 35) = false := by simp; omega
              have n33 : (((bt s q : Nat) : Int) == 33) = true := by simp; omega
              clear h35 hcom hne
              go_wp2
              go_region_with (go_at_call 37; refine (HL.out _ (by exact HP.out.drewN _)).mono ?_; rintro e w1 ⟨rfl, ⟨k0, k1, kf, kb⟩, hb1⟩)
              all_goals
                go_wp2
                go_roundg g
                case measure => omega
                case rel => exact ⟨lineE s q, hE1, by omega, Pars.set ⟨k0, k1, kf, kb⟩ _ _ (wr_eq (by omega) (by omega)), ((below_drewN HB.out _).trans hb1).setCell (Nat.le_refl _) _, by rw [HN.out, nl_com HQ.out hqe HLE.out HC.out]⟩
          · have HC := hide hcom
            have n35 : (((bt s q : Nat) : Int) == 35) = false := by simp; omega
            have n33 : (((bt s q : Nat) : Int) == 33) = false := by simp; omega
            clear hcom
            by_cases h1 : lineE s q = q + 1
            · have H1 := hide h1
              have e1 : ((lineE s q : Int) - (q : Int) == 1) = true := by simp; omega
              clear h1
              by_cases h92 : bt s q = 92
              · have H92 := hide h92
                have n92 : (((bt s q : Nat) : Int) == 92) = true := by simp; omega
                clear h92
                cases hll : lastL s q
                · have hSL : ∀ wx, Pars wx b s q → Calls Try.prog 39 #[.string s, .int .i64 ((q : Int) + 1)] wx fun e w' => e = .returned (.int .i64 (skipL s (q + 1))) ∧ w' = wx := fun wx _ => skipLineEnd_any s (q + 1) wx hs (by omega)
                  have HSL := hide hSL
                  clear hSL
                  have hwr : IntKind.i64.wrap ((q : Int) + 1) = (q : Int) + 1 := by rw [wrap_small _ (by omega) (by omega)]
                  have hg1 := skipL_le (s := s) (e := q + 1)
                  have hg2 : q < skipL s (q + 1) := by
                    by_cases hh : q + 1 < s.size
                    · have := skipL_gt hh; omega
                    · rw [skipL_out (by omega)]; exact hqlt
                  have HLF := hide hll
                  go_wp2_with (first | (go_at_call 37; refine (HL.out _ (by exact HP.out.drewN _)).mono ?_; rintro e w1 ⟨rfl, hP2, hb1⟩) | (go_at_call 38; refine (HLL.out _ (by exact hP2)).mono ?_; rintro e w2 ⟨rfl, ⟨k0, k1, kf, kb⟩, hb2⟩; rw [hll]))
                  go_region_with (go_at_call 39; refine (HSL.out _ (by exact ⟨k0, k1, kf, kb⟩)).mono ?_; rintro e w3 ⟨rfl, rfl⟩)
                  all_goals
                    go_wp2
                    go_roundg g
                    case measure => omega
                    case rel => exact ⟨skipL s (q + 1), hg1, by omega, (Pars.set (w := w2) ⟨k0, k1, kf, kb⟩ _ _ rfl).drew, ((((below_drewN HB.out _).trans hb1).trans hb2).setCell (Nat.le_refl _) _).drew, by rw [HN.out, nl_bsl HQ.out hqe HLE.out HC.out ⟨H1.out, H92.out, HLF.out⟩]⟩
                · go_wp2_with (first | (go_at_call 37; refine (HL.out _ (by exact HP.out.drewN _)).mono ?_; rintro e w1 ⟨rfl, hP2, hb1⟩) | (go_at_call 38; refine (HLL.out _ (by exact hP2)).mono ?_; rintro e w2 ⟨rfl, hP3, hb2⟩; rw [hll]))
                  go_ret
                  exact nl_fin HN (nl_hit HQ.out hqe HLE.out HC.out (fun x => by rw [hll] at x; cases x.2.2)) hP3 (((below_drewN HB.out _).trans hb1).trans hb2)
              · have n92 : (((bt s q : Nat) : Int) == 92) = false := by simp; omega
                go_wp2_with (first | (go_at_call 37; refine (HL.out _ (by exact HP.out.drewN _)).mono ?_; rintro e w1 ⟨rfl, hP2, hb1⟩))
                go_ret
                exact nl_fin HN (nl_hit HQ.out hqe HLE.out HC.out (fun x => h92 x.2.1)) hP2 ((below_drewN HB.out _).trans hb1)
            · have e1 : ((lineE s q : Int) - (q : Int) == 1) = false := by simp; omega
              go_wp2_with (first | (go_at_call 37; refine (HL.out _ (by exact HP.out.drewN _)).mono ?_; rintro e w1 ⟨rfl, hP2, hb1⟩))
              go_ret
              exact nl_fin HN (nl_hit HQ.out hqe HLE.out HC.out (fun x => h1 x.1)) hP2 ((below_drewN HB.out _).trans hb1)
        · have HL := hide hle
          by_cases h10 : bt s q = 10
          · have n10 : (((bt s q : Nat) : Int) == 10) = true := by simp; omega
            clear h10
            go_wp2
            go_roundg g
            case measure => omega
            case rel => exact ⟨q + 1, by omega, by omega, by first | exact Pars.drewN (Pars.drewN (HP.out.set _ _ (by go_num)) _) _ | exact Pars.drewN (HP.out.set _ _ (by go_num)) _, by first | exact below_drewN (below_drewN (HB.out.setCell (Nat.le_refl _) _) _) _ | exact below_drewN (HB.out.setCell (Nat.le_refl _) _) _, by rw [HN.out, nl_le HQ.out hqe HL.out]⟩
          · have h13 : bt s q = 13 := by have := le_true hle; omega
            have n10 : (((bt s q : Nat) : Int) == 10) = false := by simp; omega
            have n13 : (((bt s q : Nat) : Int) == 13) = true := by simp; omega
            clear h10 h13
            go_wp2
            go_roundg g
            case measure => omega
            case rel => exact ⟨q + 1, by omega, by omega, by first | exact Pars.drewN (Pars.drewN (HP.out.set _ _ (by go_num)) _) _ | exact Pars.drewN (HP.out.set _ _ (by go_num)) _, by first | exact below_drewN (below_drewN (HB.out.setCell (Nat.le_refl _) _) _) _ | exact below_drewN (HB.out.setCell (Nat.le_refl _) _) _, by rw [HN.out, nl_le HQ.out hqe HL.out]⟩
end Go.Proofs.Qxb6601608a

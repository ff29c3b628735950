import Derived.Test.Qxb6601608aNP
namespace Go.Proofs.Qxb6601608a
open Go.RowKit

theorem pars_new (w : World) (s : ByteArray) (p : Nat) (a b c : Value) (t : TypeId) : Pars (w.alloc (.cells #[.string s, .int .i64 p, a, b, c] t)) w.heap.size s p := by
  refine ⟨?_, ?_, World.frozen?_alloc_at _ _ _ _ rfl, by simp⟩
  · rw [World.cell?_alloc_at _ _ _ _ rfl]; rfl
  · rw [World.cell?_alloc_at _ _ _ _ rfl]; rfl

set_option maxHeartbeats 1000000 in
theorem zzNextLine_any (s : ByteArray) (p : Nat) (w : World) (hs : s.size < 4294967281) (hp : p ≤ s.size) :
    Calls Try.prog 17 #[.string s, .int .i64 p] w fun e w' => e = .returned (.tuple #[.int .i64 (NL s p).1, .bool (NL s p).2]) ∧ Below w.heap.size w w' := by
  go_enter Try.func17, Try.ntmps17
  go_wp2_with (go_at_call 29; refine (nextLine_any s _ p _ hs hp (by exact pars_new _ _ _ _ _ _ _)).mono ?_; rintro e w1 ⟨rfl, ⟨k0, k1, kf, kb⟩, hb⟩)
  go_ret2
  exact ⟨rfl, ((Below.refl _ _).alloc (Nat.le_refl _) _).trans hb⟩

theorem mdl_end {s : ByteArray} {g i : Nat} (h : ¬ i < s.size) : mdl s (g + 1) i = (s.size, false) := by rw [mdl, if_neg h]
theorem mdl_blank {s : ByteArray} {g i e j : Nat} (h : i < s.size) (he : lineE s i = e) (hj : skipTo s e i = j) (h1 : j = e) : mdl s (g + 1) i = mdl s g (skipL s e) := by
  subst he hj; rw [mdl, if_pos h, if_pos h1]
theorem mdl_com {s : ByteArray} {g i e j : Nat} (h : i < s.size) (he : lineE s i = e) (hj : skipTo s e i = j) (h1 : j ≠ e) (h2 : bt s j = 35 ∨ bt s j = 33) : mdl s (g + 1) i = mdl s g (skipL s e) := by
  subst he hj; rw [mdl, if_pos h, if_neg h1, if_pos h2]
theorem mdl_bsl {s : ByteArray} {g i e j : Nat} (h : i < s.size) (he : lineE s i = e) (hj : skipTo s e i = j) (h1 : j ≠ e) (h2 : ¬ (bt s j = 35 ∨ bt s j = 33)) (h3 : bt s j = 92 ∧ e = j + 1 ∧ 3 ≤ s.size - j) : mdl s (g + 1) i = mdl s g (skipL s e) := by
  subst he hj; rw [mdl, if_pos h, if_neg h1, if_neg h2, if_pos h3]
theorem mdl_hit {s : ByteArray} {g i e j : Nat} (h : i < s.size) (he : lineE s i = e) (hj : skipTo s e i = j) (h1 : j ≠ e) (h2 : ¬ (bt s j = 35 ∨ bt s j = 33)) (h3 : ¬ (bt s j = 92 ∧ e = j + 1 ∧ 3 ≤ s.size - j)) : mdl s (g + 1) i = (j, true) := by
  subst he hj; rw [mdl, if_pos h, if_neg h1, if_neg h2, if_neg h3]

theorem mdl_fin {s : ByteArray} {p g i q : Nat} {v : Bool} (HN : Hid (mdl s (s.size + 1) p = mdl s g i)) (h : mdl s g i = (q, v)) :
    Ending.returned (.tuple #[.int .i64 q, .bool v]) = .returned (.tuple #[.int .i64 (mdl s (s.size + 1) p).1, .bool (mdl s (s.size + 1) p).2]) := by
  rw [HN.out, h]

theorem mdl_next {s : ByteArray} {i : Nat} (h : i < s.size) : i < skipL s (lineE s i) := by
  have hge := lineE_ge s i
  by_cases hh : lineE s i < s.size
  · have := skipL_gt hh; omega
  · rw [skipL_out (by omega)]; exact h

set_option maxRecDepth 100000 in
set_option maxHeartbeats 4000000 in
theorem model_any (s : ByteArray) (p : Nat) (w : World) (hs : s.size < 4294967281) (hp : p ≤ s.size) :
    Calls Try.prog 18 #[.string s, .int .i64 p] w fun e w' => e = .returned (.tuple #[.int .i64 (mdl s (s.size + 1) p).1, .bool (mdl s (s.size + 1) p).2]) ∧ w' = w := by
  have hs' : s.size ≤ maxLen := by unfold maxLen; omega
  go_enter Try.func18, Try.ntmps18
  go_wp2
  go_loopg [6, 7, 8, 9, 10] (s.size + 1) (fun g t6 _ _ _ _ wx => w = wx ∧ ∃ k : Nat, k ≤ s.size ∧ s.size < k + g ∧ t6 = .int .i64 k ∧ mdl s (s.size + 1) p = mdl s g k)
  case atStart => exact ⟨rfl, p, hp, by omega, rfl, rfl⟩
  case round =>
    obtain ⟨rfl, k, hk, hkg, rfl, hnl⟩ := hrel
    have HN := hide hnl
    clear hnl
    obtain ⟨g, rfl⟩ : ∃ g, gk = g + 1 := ⟨gk - 1, by omega⟩
    by_cases hlt : k < s.size
    · have hz := mdl_next hlt
      have hz2 := skipL_le (s := s) (e := lineE s k)
      have he1 := lineE_ge s k
      have he2 := lineE_le hk
      have hCE := fun wx => modelLineEnd_any s k wx hs' hk
      have hCP := fun wx => pastLineEnd_any s (lineE s k) wx hs' he2
      have HCE := hide hCE
      have HCP := hide hCP
      clear hCE hCP
      obtain ⟨e, he⟩ : ∃ e, lineE s k = e := ⟨_, rfl⟩
      rw [he] at hz hz2 he1 he2 HCE HCP
      have HE := hide he
      clear he
      go_wp2_with (go_at_call 30; refine (HCE.out _).mono ?_; rintro e' w' ⟨rfl, hw⟩; obtain rfl := hw.symm)
      go_loopg [8] (e - k) (fun h t8 wx => w = wx ∧ ∃ j : Nat, k ≤ j ∧ j + h = e ∧ t8 = .int .i64 j ∧ ∀ x, k ≤ x → x < j → (!sp (bt s x)) = false)
      case atStart => exact ⟨rfl, k, Nat.le_refl _, by omega, rfl, fun x a b => by omega⟩
      case round =>
        obtain ⟨rfl, j, hj1, hj2, rfl, hall⟩ := hrel
        have HA := hide hall
        clear hall
        by_cases hje : j < e
        · have hjs : j < s.size := by omega
          have hb : (s[j]'hjs).toNat = bt s j := (bt_in hjs).symm
          have hje2 : (j : Int) < (e : Int) := by omega
          cases hsp : sp (bt s j)
          · have HT : Hid (skipTo s e k = j) := first_uniq hj1 (by omega) HA.out (fun _ => by rw [hsp]; rfl)
            have n1 : ((j : Int) == (e : Int)) = false := by simp; omega
            by_cases hcom : bt s j = 35 ∨ bt s j = 33
            · have HC := hide hcom
              by_cases h35 : bt s j = 35
              · have n35 : (((bt s j : Nat) : Int) == 35) = true := by simp; omega
                clear h35 hcom
                go_wp2_with (first | (go_at_call 20; refine (isBlank_any _ _).mono ?_; rintro e' w' ⟨rfl, hw⟩; obtain rfl := hw.symm; rw [hsp]) | (go_at_call 31; refine (HCP.out _).mono ?_; rintro e' w' ⟨rfl, hw⟩; obtain rfl := hw.symm))
                go_roundg g
                case measure => omega
                case rel => exact ⟨rfl, skipL s e, hz2, by omega, rfl, by rw [HN.out, mdl_com hlt HE.out HT.out (by omega) HC.out]⟩
              · have n35 : (((bt s j : Nat) : Int) == 35) = false := by simp; omega
                have n33 : (((bt s j : Nat) : Int) == 33) = true := by simp; omega
                clear h35 hcom
                go_wp2_with (first | (go_at_call 20; refine (isBlank_any _ _).mono ?_; rintro e' w' ⟨rfl, hw⟩; obtain rfl := hw.symm; rw [hsp]) | (go_at_call 31; refine (HCP.out _).mono ?_; rintro e' w' ⟨rfl, hw⟩; obtain rfl := hw.symm))
                go_roundg g
                case measure => omega
                case rel => exact ⟨rfl, skipL s e, hz2, by omega, rfl, by rw [HN.out, mdl_com hlt HE.out HT.out (by omega) HC.out]⟩
            · have HC := hide hcom
              have n35 : (((bt s j : Nat) : Int) == 35) = false := by simp; omega
              have n33 : (((bt s j : Nat) : Int) == 33) = false := by simp; omega
              clear hcom
              by_cases h92 : bt s j = 92
              · have n92 : (((bt s j : Nat) : Int) == 92) = true := by simp; omega
                have H92 := hide h92
                clear h92
                by_cases hej : e = j + 1
                · have nej : ((e : Int) == (j : Int) + 1) = true := by simp; omega
                  have HEJ := hide hej
                  clear hej
                  by_cases h3 : 3 ≤ s.size - j
                  · have n3 : (3 : Int) ≤ (s.size : Int) - (j : Int) := by omega
                    go_wp2_with (first | (go_at_call 20; refine (isBlank_any _ _).mono ?_; rintro e' w' ⟨rfl, hw⟩; obtain rfl := hw.symm; rw [hsp]) | (go_at_call 31; refine (HCP.out _).mono ?_; rintro e' w' ⟨rfl, hw⟩; obtain rfl := hw.symm))
                    go_roundg g
                    case measure => omega
                    case rel => exact ⟨rfl, skipL s e, hz2, by omega, rfl, by rw [HN.out, mdl_bsl hlt HE.out HT.out (by omega) HC.out ⟨H92.out, HEJ.out, h3⟩]⟩
                  · have n3 : ¬ (3 : Int) ≤ (s.size : Int) - (j : Int) := by omega
                    go_wp2_with (first | (go_at_call 20; refine (isBlank_any _ _).mono ?_; rintro e' w' ⟨rfl, hw⟩; obtain rfl := hw.symm; rw [hsp]) | (go_at_call 31; refine (HCP.out _).mono ?_; rintro e' w' ⟨rfl, hw⟩; obtain rfl := hw.symm))
                    go_ret2
                    exact ⟨mdl_fin HN (mdl_hit hlt HE.out HT.out (by omega) HC.out (fun x => h3 x.2.2)), rfl⟩
                · have nej : ((e : Int) == (j : Int) + 1) = false := by simp; omega
                  go_wp2_with (first | (go_at_call 20; refine (isBlank_any _ _).mono ?_; rintro e' w' ⟨rfl, hw⟩; obtain rfl := hw.symm; rw [hsp]) | (go_at_call 31; refine (HCP.out _).mono ?_; rintro e' w' ⟨rfl, hw⟩; obtain rfl := hw.symm))
                  go_ret2
                  exact ⟨mdl_fin HN (mdl_hit hlt HE.out HT.out (by omega) HC.out (fun x => hej x.2.1)), rfl⟩
              · have n92 : (((bt s j : Nat) : Int) == 92) = false := by simp; omega
                go_wp2_with (first | (go_at_call 20; refine (isBlank_any _ _).mono ?_; rintro e' w' ⟨rfl, hw⟩; obtain rfl := hw.symm; rw [hsp]) | (go_at_call 31; refine (HCP.out _).mono ?_; rintro e' w' ⟨rfl, hw⟩; obtain rfl := hw.symm))
                go_ret2
                exact ⟨mdl_fin HN (mdl_hit hlt HE.out HT.out (by omega) HC.out (fun x => h92 x.1)), rfl⟩
          · go_wp2_with (first | (go_at_call 20; refine (isBlank_any _ _).mono ?_; rintro e' w' ⟨rfl, hw⟩; obtain rfl := hw.symm; rw [hsp]))
            go_roundg (e - (j + 1))
            case measure => omega
            case rel => exact ⟨rfl, j + 1, by omega, by omega, by go_num, sp_more HA hsp⟩
        · have HT : Hid (skipTo s e k = j) := first_uniq hj1 (by omega) HA.out (fun h => absurd h hje)
          have n1 : ((j : Int) == (e : Int)) = true := by simp; omega
          have hje2 : ¬ (j : Int) < (e : Int) := by omega
          go_wp2_with (first | (go_at_call 31; refine (HCP.out _).mono ?_; rintro e' w' ⟨rfl, hw⟩; obtain rfl := hw.symm))
          go_roundg g
          case measure => omega
          case rel => exact ⟨rfl, skipL s e, hz2, by omega, rfl, by rw [HN.out, mdl_blank hlt HE.out HT.out (by omega)]⟩
    · go_wp2
      go_ret2
      exact ⟨mdl_fin HN (mdl_end hlt), rfl⟩
end Go.Proofs.Qxb6601608a

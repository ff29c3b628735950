import Derived.Test.Qxb6601820aQ1
namespace Go.Proofs.Qxb6601820a
open Go.RowKit

theorem le_true {n : Nat} (h : le n = true) : n = 10 ∨ n = 13 := by simpa [le] using h
theorem le_false {n : Nat} (h : le n = false) : n ≠ 10 ∧ n ≠ 13 := by simpa [le] using h

theorem ct_end {b : Nat → Nat} {n f i : Nat} {nl : Bool} (h : ¬ i < n) : ct b n (f + 1) nl i = none := by unfold ct; rw [if_neg h]
theorem ct_le {b : Nat → Nat} {n f i : Nat} {nl : Bool} (h : i < n) (h1 : le (b i) = true) : ct b n (f + 1) nl i = ct b n f true (i + 1) := by
  conv => lhs; unfold ct
  rw [if_pos h, if_pos h1]
theorem ct_sp {b : Nat → Nat} {n f i : Nat} {nl : Bool} (h : i < n) (h1 : le (b i) = false) (h2 : sp4 (b i) = true) : ct b n (f + 1) nl i = ct b n f nl (i + 1) := by
  conv => lhs; unfold ct
  rw [if_pos h, if_neg (by rw [h1]; exact Bool.false_ne_true), if_pos h2]
theorem ct_com {b : Nat → Nat} {n f i : Nat} {nl : Bool} (h : i < n) (h1 : le (b i) = false) (h2 : sp4 (b i) = false) (h3 : b i = 45 ∧ b (i + 1) = 45) : ct b n (f + 1) nl i = ct b n f nl (lnE b n i) := by
  conv => lhs; unfold ct
  rw [if_pos h, if_neg (by rw [h1]; exact Bool.false_ne_true), if_neg (by rw [h2]; exact Bool.false_ne_true), if_pos h3]
theorem ct_hit {b : Nat → Nat} {n f i : Nat} {nl : Bool} (h : i < n) (h1 : le (b i) = false) (h2 : sp4 (b i) = false) (h3 : ¬ (b i = 45 ∧ b (i + 1) = 45)) (h4 : b i = 39 ∧ nl = true) : ct b n (f + 1) nl i = some (i + 1) := by
  conv => lhs; unfold ct
  rw [if_pos h, if_neg (by rw [h1]; exact Bool.false_ne_true), if_neg (by rw [h2]; exact Bool.false_ne_true), if_neg h3, if_pos h4]
theorem ct_no {b : Nat → Nat} {n f i : Nat} {nl : Bool} (h : i < n) (h1 : le (b i) = false) (h2 : sp4 (b i) = false) (h3 : ¬ (b i = 45 ∧ b (i + 1) = 45)) (h4 : ¬ (b i = 39 ∧ nl = true)) : ct b n (f + 1) nl i = none := by
  conv => lhs; unfold ct
  rw [if_pos h, if_neg (by rw [h1]; exact Bool.false_ne_true), if_neg (by rw [h2]; exact Bool.false_ne_true), if_neg h3, if_neg h4]

def ctN (s : ByteArray) : Nat := (ct (bt s) s.size (s.size + 1) false 0).getD 0
theorem ctN_of {s : ByteArray} {g k : Nat} {nl : Bool} {o : Option Nat} (H : Hid (ct (bt s) s.size (s.size + 1) false 0 = ct (bt s) s.size g nl k)) (h : ct (bt s) s.size g nl k = o) (v : Int) (hv : v = (o.getD 0 : Nat)) : Ending.returned (.int .i64 v) = .returned (.int .i64 (ctN s)) := by
  unfold ctN
  rw [H.out, h, hv]

set_option maxRecDepth 100000 in
set_option maxHeartbeats 2000000 in
theorem cont_any (s : ByteArray) (w : World) (hs : s.size < 4294967281) :
    Calls Try.prog 20 #[.string s] w fun e w' => e = .returned (.int .i64 (ctN s)) ∧ Below w.heap.size w w' := by
  go_enter Try.func20, Try.ntmps20
  go_wp2
  go_loopg [3, 4, 5] (s.size + 1) (fun g t3 t4 _ wx => ∃ (k : Nat) (nl : Bool), k ≤ s.size ∧ s.size < k + g ∧ t3 = .bool nl ∧ t4 = .int .i64 k ∧ Below w.heap.size w wx ∧ ct (bt s) s.size (s.size + 1) false 0 = ct (bt s) s.size g nl k)
  case atStart => exact ⟨0, false, by omega, by omega, rfl, rfl, Below.refl _ _, rfl⟩
  case round =>
    obtain ⟨k, nl, hk, hkg, rfl, rfl, hbel, hct⟩ := hrel
    have HB := hide hbel
    have HC := hide hct
    clear hbel hct
    obtain ⟨g, rfl⟩ : ∃ g, gk = g + 1 := ⟨gk - 1, by omega⟩
    by_cases hlt : k < s.size
    · have hb : (s[k]'hlt).toNat = bt s k := (bt_in hlt).symm
      have hb256 := bt_lt hlt
      have hsp := fun wx => isSpace_any (bt s k) wx hb256
      have HSP := hide hsp
      clear hsp
      cases hle : le (bt s k)
      · have n10 : (((bt s k : Nat) : Int) == 10) = false := by have := (le_false hle).1; simp; omega
        have n13 : (((bt s k : Nat) : Int) == 13) = false := by have := (le_false hle).2; simp; omega
        have HLE := hide hle
        have hs6 : sp6 (bt s k) = sp4 (bt s k) := by unfold sp6; rw [hle]; rfl
        rw [hs6] at HSP
        clear hs6 hle
        cases hs4 : sp4 (bt s k)
        · rw [hs4] at HSP
          have HS4 := hide hs4
          clear hs4
          have hpre := fun wx => prefix_at s k wx 45 45 hk
          have HPRE : Hid (∀ wx, Calls Try.prog 19 #[.string (s.extract k s.size), .string { data := #[45, 45] }] wx fun e w' => e = .returned (.bool (decide (bt s k = 45 ∧ bt s (k + 1) = 45))) ∧ w' = wx) := hpre
          clear hpre
          by_cases h45 : bt s k = 45 ∧ bt s (k + 1) = 45
          · rw [decide_eq_true h45] at HPRE
            have H45 := hide h45
            clear h45
            have hll := fun wx => lineLen_at s k wx hs hk
            have HLL := hide hll
            clear hll
            have hE1 := lineE_le hk
            have hE2 : k < lineE s k := lnE_gt (b := bt s) hlt HLE.out
            go_wp2_with (first | (go_at_call 22; refine (HSP.out _).mono ?_; rintro e w' ⟨rfl, hw⟩; obtain rfl := hw.symm) | (go_at_call 19; refine (HPRE.out _).mono ?_; rintro e w' ⟨rfl, hw⟩; obtain rfl := hw.symm) | (go_at_call 23; refine (HLL.out _).mono ?_; rintro e w' ⟨rfl, hb2⟩))
            go_roundg g
            case measure => omega
            case rel => exact ⟨lineE s k, nl, hE1, by omega, rfl, by go_num, HB.out.trans (hb2.mono HB.out.size), by rw [HC.out, ct_com hlt HLE.out HS4.out H45.out]; rfl⟩
          · rw [decide_eq_false h45] at HPRE
            have H45 := hide h45
            clear h45
            by_cases h39 : bt s k = 39
            · have n39 : (((bt s k : Nat) : Int) == 39) = true := by simp; omega
              have H39 := hide h39
              clear h39
              cases nl
              · go_wp2_with (first | (go_at_call 22; refine (HSP.out _).mono ?_; rintro e w' ⟨rfl, hw⟩; obtain rfl := hw.symm) | (go_at_call 19; refine (HPRE.out _).mono ?_; rintro e w' ⟨rfl, hw⟩; obtain rfl := hw.symm))
                go_ret
                exact ⟨ctN_of HC (ct_no hlt HLE.out HS4.out H45.out (fun x => by cases x.2)) _ rfl, HB.out⟩
              · go_wp2_with (first | (go_at_call 22; refine (HSP.out _).mono ?_; rintro e w' ⟨rfl, hw⟩; obtain rfl := hw.symm) | (go_at_call 19; refine (HPRE.out _).mono ?_; rintro e w' ⟨rfl, hw⟩; obtain rfl := hw.symm))
                go_ret
                exact ⟨ctN_of HC (ct_hit hlt HLE.out HS4.out H45.out ⟨H39.out, rfl⟩) _ (by simp), HB.out⟩
            · have n39 : (((bt s k : Nat) : Int) == 39) = false := by simp; omega
              go_wp2_with (first | (go_at_call 22; refine (HSP.out _).mono ?_; rintro e w' ⟨rfl, hw⟩; obtain rfl := hw.symm) | (go_at_call 19; refine (HPRE.out _).mono ?_; rintro e w' ⟨rfl, hw⟩; obtain rfl := hw.symm))
              go_ret
              exact ⟨ctN_of HC (ct_no hlt HLE.out HS4.out H45.out (fun x => h39 x.1)) _ rfl, HB.out⟩
        · rw [hs4] at HSP
          have HS4 := hide hs4
          clear hs4
          go_wp2_with (first | (go_at_call 22; refine (HSP.out _).mono ?_; rintro e w' ⟨rfl, hw⟩; obtain rfl := hw.symm))
          go_roundg g
          case measure => omega
          case rel => exact ⟨k + 1, nl, by omega, by omega, rfl, by go_num, HB.out, by rw [HC.out, ct_sp hlt HLE.out HS4.out]⟩
      · have HLE := hide hle
        by_cases h10 : bt s k = 10
        · have n10 : (((bt s k : Nat) : Int) == 10) = true := by simp; omega
          clear h10 hle
          go_wp2
          go_roundg g
          case measure => omega
          case rel => exact ⟨k + 1, true, by omega, by omega, rfl, by go_num, HB.out, by rw [HC.out, ct_le hlt HLE.out]⟩
        · have n10 : (((bt s k : Nat) : Int) == 10) = false := by simp; omega
          have n13 : (((bt s k : Nat) : Int) == 13) = true := by have := le_true hle; simp; omega
          clear h10 hle
          go_wp2
          go_roundg g
          case measure => omega
          case rel => exact ⟨k + 1, true, by omega, by omega, rfl, by go_num, HB.out, by rw [HC.out, ct_le hlt HLE.out]⟩
    · go_wp2
      go_ret
      exact ⟨ctN_of HC (ct_end hlt) _ rfl, HB.out⟩

end Go.Proofs.Qxb6601820a

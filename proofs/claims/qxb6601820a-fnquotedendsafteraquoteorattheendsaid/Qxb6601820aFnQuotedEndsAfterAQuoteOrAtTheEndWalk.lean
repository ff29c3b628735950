import Derived.Test.Qxb6601820aQ4
namespace Go.Proofs.Qxb6601820a.fnQuotedEndsAfterAQuoteOrAtTheEnd
open Go.RowKit
set_option linter.unusedVariables false

set_option maxHeartbeats 2000000 in
theorem walk (a0 : ByteArray) (a1 : Int) (a2 : Bool) (a3 : Bool) (w0 : a0.size ≤ maxLen) (w1 : (Lit.int .i64 a1).wf = true) (w : World) :
    Calls Try.prog 5 #[.string a0, .int .i64 a1, .bool a2, .bool a3] w fun e w' => e = .returned (.bool true) ∧ Below w.heap.size w w' := by
  have hZ := fun wx => zz14 a0 a1 a2 a3 wx w0
  have HZ := hide hZ
  clear hZ
  by_cases h1 : a0.size ≤ 1048576
  · rw [decide_eq_true h1] at HZ
    have h1' : ¬ (1048576 : Int) < (a0.size : Int) := by omega
    by_cases h2 : a1 < 0
    · go_enter Try.func5, Try.ntmps5
      go_wp2_with (go_at_call 14; refine (HZ.out _).mono ?_; rintro e w' ⟨rfl, hw⟩; obtain rfl := hw.symm)
      go_ret
      exact ⟨rfl, Below.refl _ _⟩
    · by_cases h3 : (a0.size : Int) < a1
      · go_enter Try.func5, Try.ntmps5
        go_wp2_with (go_at_call 14; refine (HZ.out _).mono ?_; rintro e w' ⟨rfl, hw⟩; obtain rfl := hw.symm)
        go_ret
        exact ⟨rfl, Below.refl _ _⟩
      · obtain ⟨p, rfl⟩ : ∃ p : Nat, a1 = (p : Int) := ⟨a1.toNat, by omega⟩
        have hp : p ≤ a0.size := by omega
        have hQ := fun wx => zzQuoted_any a0 p a2 a3 wx (by omega) hp
        have HQ := hide hQ
        clear hQ
        obtain ⟨r1, r2, r3, r4⟩ := qd_spec (bt a0) a0.size a3 (a0.size + 2) p hp (by omega)
        change p ≤ QD a0 a3 p at r1
        change QD a0 a3 p ≤ a0.size at r2
        change p < a0.size → p < QD a0 a3 p at r3
        change QD a0 a3 p < a0.size → 1 ≤ QD a0 a3 p ∧ bt a0 (QD a0 a3 p - 1) = 39 ∧ bt a0 (QD a0 a3 p) ≠ 39 at r4
        generalize QD a0 a3 p = r at HQ r1 r2 r3 r4
        have c1 : ¬ (r : Int) < (p : Int) := by omega
        have c2 : ¬ (a0.size : Int) < (r : Int) := by omega
        by_cases c3 : p = a0.size
        · have d1 : ((p : Int) == (a0.size : Int)) = true := by simp; omega
          have d2 : ((r : Int) == (p : Int)) = true := by simp; omega
          clear c3 r3 r4
          go_enter Try.func5, Try.ntmps5
          go_wp2_with (first | (go_at_call 14; refine (HZ.out _).mono ?_; rintro e w' ⟨rfl, hw⟩; obtain rfl := hw.symm) | (go_at_call 12; refine (HQ.out _).mono ?_; rintro e w' ⟨rfl, hb⟩))
          go_ret
          exact ⟨rfl, hb⟩
        · have d1 : ((p : Int) == (a0.size : Int)) = false := by simp; omega
          have d0 : p < r := r3 (by omega)
          have d2 : ((r : Int) == (p : Int)) = false := by simp; omega
          by_cases c4 : r < a0.size
          · obtain ⟨f1, f2, f3⟩ := r4 c4
            have g1 : r - 1 < a0.size := by omega
            have hb1 : (a0[r - 1]'g1).toNat = bt a0 (r - 1) := (bt_in g1).symm
            have hb2 : (a0[r]'c4).toNat = bt a0 r := (bt_in c4).symm
            have hx : ((r : Int) - 1).toNat = r - 1 := by omega
            have e1 : (((bt a0 (r - 1) : Nat) : Int) != 39) = false := by simp; omega
            have e2 : (((bt a0 r : Nat) : Int) == 39) = false := by simp; omega
            have g2 : 0 ≤ (r : Int) - 1 := by omega
            have g3 : (r : Int) - 1 < (a0.size : Int) := by omega
            have c4' : (r : Int) < (a0.size : Int) := by omega
            clear f2 f3 r3 r4
            go_enter Try.func5, Try.ntmps5
            go_wp2_with (first | (go_at_call 14; refine (HZ.out _).mono ?_; rintro e w' ⟨rfl, hw⟩; obtain rfl := hw.symm) | (go_at_call 12; refine (HQ.out _).mono ?_; rintro e w' ⟨rfl, hb⟩))
            go_ret
            exact ⟨rfl, hb⟩
          · have c4' : ¬ (r : Int) < (a0.size : Int) := by omega
            clear r3 r4
            go_enter Try.func5, Try.ntmps5
            go_wp2_with (first | (go_at_call 14; refine (HZ.out _).mono ?_; rintro e w' ⟨rfl, hw⟩; obtain rfl := hw.symm) | (go_at_call 12; refine (HQ.out _).mono ?_; rintro e w' ⟨rfl, hb⟩))
            go_ret
            exact ⟨rfl, hb⟩
  · rw [decide_eq_false h1] at HZ
    go_enter Try.func5, Try.ntmps5
    go_wp2_with (go_at_call 14; refine (HZ.out _).mono ?_; rintro e w' ⟨rfl, hw⟩; obtain rfl := hw.symm)
    go_ret
    exact ⟨rfl, Below.refl _ _⟩

end Go.Proofs.Qxb6601820a.fnQuotedEndsAfterAQuoteOrAtTheEnd

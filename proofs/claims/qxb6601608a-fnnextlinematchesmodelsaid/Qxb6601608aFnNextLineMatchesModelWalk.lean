import Derived.Test.Qxb6601608aN2
namespace Go.Proofs.Qxb6601608a.fnNextLineMatchesModel
open Go.RowKit
set_option linter.unusedVariables false

set_option maxHeartbeats 1000000 in
theorem walk (a0 : ByteArray) (a1 : Int) (w0 : a0.size ≤ maxLen) (w1 : (Lit.int .i64 a1).wf = true) (w : World) :
    Calls Try.prog 6 #[.string a0, .int .i64 a1] w fun e w' => e = .returned (.bool true) ∧ Below w.heap.size w w' := by
  have hZ := fun wx => zz16 a0 a1 wx w0
  have HZ := hide hZ
  clear hZ
  by_cases h1 : a0.size ≤ 1048576
  · rw [decide_eq_true h1] at HZ
    have h1' : ¬ (1048576 : Int) < (a0.size : Int) := by omega
    by_cases h2 : a1 < 0
    · go_enter Try.func6, Try.ntmps6
      go_wp2_with (go_at_call 16; refine (HZ.out _).mono ?_; rintro e w' ⟨rfl, hw⟩; obtain rfl := hw.symm)
      go_ret
      exact ⟨rfl, Below.refl _ _⟩
    · by_cases h3 : (a0.size : Int) < a1
      · go_enter Try.func6, Try.ntmps6
        go_wp2_with (go_at_call 16; refine (HZ.out _).mono ?_; rintro e w' ⟨rfl, hw⟩; obtain rfl := hw.symm)
        go_ret
        exact ⟨rfl, Below.refl _ _⟩
      · obtain ⟨p, rfl⟩ : ∃ p : Nat, a1 = (p : Int) := ⟨a1.toNat, by omega⟩
        have hp : p ≤ a0.size := by omega
        have hM : ∀ wx, Calls Try.prog 18 #[.string a0, .int .i64 p] wx fun e w' => e = .returned (.tuple #[.int .i64 (NL a0 p).1, .bool (NL a0 p).2]) ∧ w' = wx := fun wx => by
          rw [mdl_eq a0 (a0.size + 1) p hp (by omega)]
          exact model_any a0 p wx (by omega) hp
        have hN : ∀ wx, Calls Try.prog 17 #[.string a0, .int .i64 p] wx fun e w' => e = .returned (.tuple #[.int .i64 (NL a0 p).1, .bool (NL a0 p).2]) ∧ Below wx.heap.size wx w' := fun wx => zzNextLine_any a0 p wx (by omega) hp
        have HM := hide hM
        have HN := hide hN
        clear hM hN
        generalize NL a0 p = r at HM HN
        obtain ⟨q, v⟩ := r
        cases v
        all_goals
          go_enter Try.func6, Try.ntmps6
          go_wp2_with (first | (go_at_call 16; refine (HZ.out _).mono ?_; rintro e w' ⟨rfl, hw⟩; obtain rfl := hw.symm) | (go_at_call 17; refine (HN.out _).mono ?_; rintro e w' ⟨rfl, hb⟩) | (go_at_call 18; refine (HM.out _).mono ?_; rintro e w2 ⟨rfl, hw⟩; obtain rfl := hw.symm))
          go_ret
          exact ⟨rfl, hb⟩
  · rw [decide_eq_false h1] at HZ
    go_enter Try.func6, Try.ntmps6
    go_wp2_with (go_at_call 16; refine (HZ.out _).mono ?_; rintro e w' ⟨rfl, hw⟩; obtain rfl := hw.symm)
    go_ret
    exact ⟨rfl, Below.refl _ _⟩

end Go.Proofs.Qxb6601608a.fnNextLineMatchesModel

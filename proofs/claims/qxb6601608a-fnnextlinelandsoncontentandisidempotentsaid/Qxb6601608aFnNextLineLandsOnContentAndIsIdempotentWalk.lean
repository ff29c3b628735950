import Derived.Test.Qxb6601608aN2
import Derived.Deep.RegionWith
namespace Go.Proofs.Qxb6601608a.fnNextLineLandsOnContentAndIsIdempotent
open Go.RowKit
set_option linter.unusedVariables false

set_option maxRecDepth 100000 in
set_option maxHeartbeats 2000000 in
theorem walk (a0 : ByteArray) (a1 : Int) (w0 : a0.size ≤ maxLen) (w1 : (Lit.int .i64 a1).wf = true) (w : World) :
    Calls Try.prog 7 #[.string a0, .int .i64 a1] w fun e w' => e = .returned (.bool true) ∧ Below w.heap.size w w' := by
  have hZ := fun wx => zz19 a0 a1 wx w0
  have HZ := hide hZ
  clear hZ
  by_cases h1 : a0.size ≤ 1048576
  · rw [decide_eq_true h1] at HZ
    have h1' : ¬ (1048576 : Int) < (a0.size : Int) := by omega
    by_cases h2 : a1 < 0
    · go_enter Try.func7, Try.ntmps7
      go_wp2_with (go_at_call 19; refine (HZ.out _).mono ?_; rintro e w' ⟨rfl, hw⟩; obtain rfl := hw.symm)
      go_ret
      exact ⟨rfl, Below.refl _ _⟩
    · by_cases h3 : (a0.size : Int) < a1
      · go_enter Try.func7, Try.ntmps7
        go_wp2_with (go_at_call 19; refine (HZ.out _).mono ?_; rintro e w' ⟨rfl, hw⟩; obtain rfl := hw.symm)
        go_ret
        exact ⟨rfl, Below.refl _ _⟩
      · obtain ⟨p, rfl⟩ : ∃ p : Nat, a1 = (p : Int) := ⟨a1.toNat, by omega⟩
        have hp : p ≤ a0.size := by omega
        have hN : ∀ wx, Calls Try.prog 17 #[.string a0, .int .i64 p] wx fun e w' => e = .returned (.tuple #[.int .i64 (NL a0 p).1, .bool (NL a0 p).2]) ∧ Below wx.heap.size wx w' := fun wx => zzNextLine_any a0 p wx (by omega) hp
        have HN := hide hN
        clear hN
        obtain ⟨hge, hres⟩ := nl_spec a0 (a0.size + 1) p hp (by omega)
        have hge' : p ≤ (NL a0 p).1 := hge
        clear hge
        rcases hres with hend | ⟨q, hq, hhit⟩
        · have hNL : NL a0 p = (a0.size, false) := hend
          rw [hNL] at HN hge'
          have hN2 : ∀ wx, Calls Try.prog 17 #[.string a0, .int .i64 a0.size] wx fun e w' => e = .returned (.tuple #[.int .i64 a0.size, .bool false]) ∧ Below wx.heap.size wx w' := fun wx => by
            have := zzNextLine_any a0 a0.size wx (by omega) (Nat.le_refl _)
            rw [show NL a0 a0.size = (a0.size, false) from nl_of_end a0 _] at this
            exact this
          have HN2 := hide hN2
          clear hN2 hNL hend
          have e1 : ((a0.size : Int) != (a0.size : Int)) = false := by simp
          go_enter Try.func7, Try.ntmps7
          go_wp2_with (first | (go_at_call 19; refine (HZ.out _).mono ?_; rintro e w' ⟨rfl, hw⟩; obtain rfl := hw.symm) | (go_at_call_of 17 p; refine (HN.out _).mono ?_; rintro e w1 ⟨rfl, hb1⟩) | (go_at_call_of 17 (a0.size); refine (HN2.out _).mono ?_; rintro e w2 ⟨rfl, hb2⟩))
          go_ret
          exact ⟨rfl, hb1.trans (hb2.mono hb1.size)⟩
        · have hNL : NL a0 p = (q, true) := hq
          rw [hNL] at HN hge'
          have hN2 : ∀ wx, Calls Try.prog 17 #[.string a0, .int .i64 q] wx fun e w' => e = .returned (.tuple #[.int .i64 q, .bool true]) ∧ Below wx.heap.size wx w' := fun wx => by
            have := zzNextLine_any a0 q wx (by omega) (by have := hhit.1; omega)
            rw [show NL a0 q = (q, true) from nl_of_hit a0 q _ hhit] at this
            exact this
          have HN2 := hide hN2
          clear hN2 hNL hq
          obtain ⟨c0, c1, c2, c3, _⟩ := hhit
          have hb : (a0[q]'c0).toNat = bt a0 q := (bt_in c0).symm
          have e0 : ((q : Int) == (a0.size : Int)) = false := by simp; omega
          have hge'' : (p : Int) ≤ (q : Int) := by simp at hge'; omega
          have n10 : (((bt a0 q : Nat) : Int) == 10) = false := by have := (le_false c2).1; simp; omega
          have n13 : (((bt a0 q : Nat) : Int) == 13) = false := by have := (le_false c2).2; simp; omega
          have n35 : (((bt a0 q : Nat) : Int) == 35) = false := by simp; omega
          have n33 : (((bt a0 q : Nat) : Int) == 33) = false := by simp; omega
          have HSP := hide c1
          clear c1 c2 c3 hge'
          go_enter Try.func7, Try.ntmps7
          go_wp2_with (first | (go_at_call 19; refine (HZ.out _).mono ?_; rintro e w' ⟨rfl, hw⟩; obtain rfl := hw.symm) | (go_at_call_of 17 p; refine (HN.out _).mono ?_; rintro e w1 ⟨rfl, hb1⟩) | (go_at_call 20; refine (isBlank_any _ _).mono ?_; rintro e w2 ⟨rfl, hw⟩; obtain rfl := hw.symm; rw [HSP.out]) | (go_at_call_of 17 q; refine (HN2.out _).mono ?_; rintro e w2 ⟨rfl, hb2⟩))
          go_ret
          exact ⟨rfl, hb1.trans (hb2.mono hb1.size)⟩
  · rw [decide_eq_false h1] at HZ
    go_enter Try.func7, Try.ntmps7
    go_wp2_with (go_at_call 19; refine (HZ.out _).mono ?_; rintro e w' ⟨rfl, hw⟩; obtain rfl := hw.symm)
    go_ret
    exact ⟨rfl, Below.refl _ _⟩

end Go.Proofs.Qxb6601608a.fnNextLineLandsOnContentAndIsIdempotent

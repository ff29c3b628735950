import Derived.Test.Qxb6601820aQ4
import Derived.Test.Qxb6601820aQ5
namespace Go.Proofs.Qxb6601820a.fnQuotedMatchesScanner
open Go.RowKit
set_option linter.unusedVariables false

theorem quoted_scanner (s : ByteArray) (bs : Bool) (p : Nat) (hp : p ≤ s.size) : QD s bs p = AM s bs p :=
  qd_am (bt s) s.size bs (fun j hj => bt_out hj) (s.size - p) p (s.size + 2) (s.size + 1) false p (Nat.le_refl _) (by omega) (by omega)

set_option maxHeartbeats 2000000 in
theorem walk (a0 : ByteArray) (a1 : Int) (a2 : Bool) (a3 : Bool) (w0 : a0.size ≤ maxLen) (w1 : (Lit.int .i64 a1).wf = true) (w : World) :
    Calls Try.prog 4 #[.string a0, .int .i64 a1, .bool a2, .bool a3] w fun e w' => e = .returned (.bool true) ∧ Below w.heap.size w w' := by
  have hZ := fun wx => zz11 a0 a1 a2 a3 wx w0
  have HZ := hide hZ
  clear hZ
  by_cases h1 : a0.size ≤ 1048576
  · rw [decide_eq_true h1] at HZ
    have h1' : ¬ (1048576 : Int) < (a0.size : Int) := by omega
    by_cases h2 : a1 < 0
    · go_enter Try.func4, Try.ntmps4
      go_wp2_with (go_at_call 11; refine (HZ.out _).mono ?_; rintro e w' ⟨rfl, hw⟩; obtain rfl := hw.symm)
      go_ret
      exact ⟨rfl, Below.refl _ _⟩
    · by_cases h3 : (a0.size : Int) < a1
      · go_enter Try.func4, Try.ntmps4
        go_wp2_with (go_at_call 11; refine (HZ.out _).mono ?_; rintro e w' ⟨rfl, hw⟩; obtain rfl := hw.symm)
        go_ret
        exact ⟨rfl, Below.refl _ _⟩
      · obtain ⟨p, rfl⟩ : ∃ p : Nat, a1 = (p : Int) := ⟨a1.toNat, by omega⟩
        have hp : p ≤ a0.size := by omega
        have hQ := fun wx => zzQuoted_any a0 p a2 a3 wx (by omega) hp
        have hA := fun wx => scanner_any a0 p a3 wx (by omega) hp
        rw [quoted_scanner a0 a3 p hp] at hQ
        have HQ := hide hQ
        have HA := hide hA
        clear hQ hA
        generalize AM a0 a3 p = r at HQ HA
        go_enter Try.func4, Try.ntmps4
        go_wp2_with (first | (go_at_call 11; refine (HZ.out _).mono ?_; rintro e w' ⟨rfl, hw⟩; obtain rfl := hw.symm) | (go_at_call 12; refine (HQ.out _).mono ?_; rintro e w' ⟨rfl, hb⟩) | (go_at_call 13; refine (HA.out _).mono ?_; rintro e w2 ⟨rfl, hw⟩; obtain rfl := hw.symm))
        go_ret
        exact ⟨rfl, hb⟩
  · rw [decide_eq_false h1] at HZ
    go_enter Try.func4, Try.ntmps4
    go_wp2_with (go_at_call 11; refine (HZ.out _).mono ?_; rintro e w' ⟨rfl, hw⟩; obtain rfl := hw.symm)
    go_ret
    exact ⟨rfl, Below.refl _ _⟩

end Go.Proofs.Qxb6601820a.fnQuotedMatchesScanner

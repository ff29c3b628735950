import Derived.Test.Qxb6601820aQ3
namespace Go.Proofs.Qxb6601820a
open Go.RowKit

theorem zz11 (s : ByteArray) (p : Int) (a b : Bool) (w : World) (hs : s.size ≤ maxLen) :
    Calls Try.prog 11 #[.string s, .int .i64 p, .bool a, .bool b] w fun e w' => e = .returned (.bool (decide (s.size ≤ 1048576))) ∧ w' = w := by
  unfold maxLen at hs
  by_cases h : s.size ≤ 1048576
  · have h1 : ¬ (1048576 : Int) < (s.size : Int) := by omega
    rw [decide_eq_true h]
    go_enter Try.func11, Try.ntmps11
    go_wp2
    go_ret
    exact ⟨rfl, rfl⟩
  · have h1 : (1048576 : Int) < (s.size : Int) := by omega
    rw [decide_eq_false h]
    go_enter Try.func11, Try.ntmps11
    go_wp2
    go_ret
    exact ⟨rfl, rfl⟩
theorem zz14 (s : ByteArray) (p : Int) (a b : Bool) (w : World) (hs : s.size ≤ maxLen) :
    Calls Try.prog 14 #[.string s, .int .i64 p, .bool a, .bool b] w fun e w' => e = .returned (.bool (decide (s.size ≤ 1048576))) ∧ w' = w := by
  unfold maxLen at hs
  by_cases h : s.size ≤ 1048576
  · have h1 : ¬ (1048576 : Int) < (s.size : Int) := by omega
    rw [decide_eq_true h]
    go_enter Try.func14, Try.ntmps14
    go_wp2
    go_ret
    exact ⟨rfl, rfl⟩
  · have h1 : (1048576 : Int) < (s.size : Int) := by omega
    rw [decide_eq_false h]
    go_enter Try.func14, Try.ntmps14
    go_wp2
    go_ret
    exact ⟨rfl, rfl⟩

theorem lex_new (w : World) (s : ByteArray) (p : Nat) (a : Value) (t : TypeId) : Lex (w.alloc (.cells #[.string s, .int .i64 p, a] t)) w.heap.size s p := by
  refine ⟨?_, ?_, World.frozen?_alloc_at _ _ _ _ rfl, by simp⟩
  · rw [World.cell?_alloc_at _ _ _ _ rfl]; rfl
  · rw [World.cell?_alloc_at _ _ _ _ rfl]; rfl

def QD (s : ByteArray) (bs : Bool) (p : Nat) : Nat := qd (bt s) s.size bs (s.size + 2) p

set_option maxHeartbeats 1000000 in
theorem zzQuoted_any (s : ByteArray) (p : Nat) (bq bs : Bool) (w : World) (hs : s.size < 4294967281) (hp : p ≤ s.size) :
    Calls Try.prog 12 #[.string s, .int .i64 p, .bool bq, .bool bs] w fun e w' => e = .returned (.int .i64 (QD s bs p)) ∧ Below w.heap.size w w' := by
  go_enter Try.func12, Try.ntmps12
  go_wp2_with (go_at_call 17; refine (quoted_any s _ p bs _ hs hp (by exact lex_new _ _ _ _ _)).mono ?_; rintro e w1 ⟨rfl, ⟨k0, k1, kf, kb⟩, hb⟩)
  go_ret
  exact ⟨rfl, ((Below.refl _ _).alloc (Nat.le_refl _) _).trans hb⟩

end Go.Proofs.Qxb6601820a

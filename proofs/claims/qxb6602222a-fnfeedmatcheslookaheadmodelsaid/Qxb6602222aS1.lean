import Derived.Test.Qxb6602222aRows
import Derived.Test.Qxb6602222aShelf
import Derived.WalkKit
import Derived.WalkSpells
import Derived.WalkLawsBesides
import Derived.Deep.OwnRows
import Derived.Deep.LoopGhost
namespace Go.Proofs.Qxb6602222a
open Go.RowKit

theorem hide {p : Prop} (h : p) : Hid p := h
theorem ret_int {k : IntKind} {a b : Int} (h : a = b) : Ending.returned (.int k a) = .returned (.int k b) := by rw [h]
theorem ret_bool {a b : Bool} (h : a = b) : Ending.returned (.bool a) = .returned (.bool b) := by rw [h]
theorem info5 : (Try.prog.info? 5).map (fun i => (i.zero, i.size, i.bytes)) = some (some (.int .u8 0), 1, 1) := by kernel_rfl
theorem info2 : (Try.prog.info? 2).map (fun i => (i.zero, i.size, i.bytes)) = some (some (.int .i64 0), 1, 8) := by kernel_rfl

theorem cloneB_nil (w : World) :
    Calls Try.prog 11 #[.slice none 0 0] w fun e w' => e = .returned (.slice none 0 0) ∧ w' = w := by
  have hq := fun w => Lib.run_eql_slice_nil (P := Try.prog) w 22 5 none 0 0 0 0 Try.underlying22
  go_enter Try.func11, Try.ntmps11
  go_wp2
  go_ret
  exact ⟨rfl, rfl⟩

/-- what has been copied so far -/
theorem copied {f : Nat → Int} {k : IntKind} {w : World} {b t n j : Nat} (h : w.rowIs b t n (fun i => if i < j then .int k (f i) else .int k 0)) : (w.setCell ⟨b, j, none⟩ (.int k (f j))).rowIs b t n (fun i => if i < j + 1 then .int k (f i) else .int k 0) :=
  (h.set j _).congr (fun i _ => by
    by_cases e : i = j
    · rw [if_pos e, if_pos (by omega), e]
    · rw [if_neg e]
      by_cases e2 : i < j
      · rw [if_pos e2, if_pos (by omega)]
      · rw [if_neg e2, if_neg (by omega)])

set_option maxHeartbeats 1000000 in
theorem cloneB_zero (x : Addr) (c : Nat) (w : World) :
    Calls Try.prog 11 #[.slice (some x) 0 c] w fun e w' => e = .returned (.slice (some ⟨w.heap.size, 0, none⟩) 0 0) ∧ w'.rowIs w.heap.size 5 0 (fun _ => .int .u8 0) ∧ Below w.heap.size w w' := by
  have hq := fun w => Lib.run_eql_slice_nil (P := Try.prog) w 22 5 (some x) 0 c 0 0 Try.underlying22
  have hmk : ∀ w, (Instr.makeSlice 22 (.int .i64 0) (.int .i64 0)).run Try.prog w = .ok (.slice (some ⟨w.heap.size, 0, none⟩) 0 0) (w.alloc (.cells (madeCells #[.int .u8 0] 0) 5)) := run_make_row' (P := Try.prog) 22 5 (.int .u8 0) 1 Try.underlying22 info5 rfl .i64 .i64 0 (by omega) (by omega)
  have hrow : ∀ t, (w.alloc (.cells (madeCells #[Value.int .u8 0] 0) t)).rowIs w.heap.size t 0 (fun _ => .int .u8 0) := fun t => World.rowIs_made w (.int .u8 0) 0 t
  have HR := hide hrow
  clear hrow
  go_enter Try.func11, Try.ntmps11
  go_wp2
  go_loop [4] (fun t => t = .int .i64 0) (fun _ => 0)
  case atStart => rfl
  case round =>
    subst hrel
    go_wp2
    go_ret
    exact ⟨rfl, HR.out 5, (Below.refl _ _).alloc (Nat.le_refl _) _⟩

set_option maxHeartbeats 1000000 in
theorem cloneB_some (b off n c : Nat) (f : Nat → Int) (w : World) (hn : n ≤ 281474976710656) (hcell : ∀ i, i < n → w.cell? ⟨b, off + i, none⟩ = some (.int .u8 (f i))) (hb : b < w.heap.size) :
    Calls Try.prog 11 #[.slice (some ⟨b, off, none⟩) n c] w fun e w' => e = .returned (.slice (some ⟨w.heap.size, 0, none⟩) n n) ∧ w'.rowIs w.heap.size 5 n (fun i => .int .u8 (f i)) ∧ Below w.heap.size w w' := by
  have hq := fun w => Lib.run_eql_slice_nil (P := Try.prog) w 22 5 (some ⟨b, off, none⟩) n c 0 0 Try.underlying22
  have hmk := run_make_row' (P := Try.prog) 22 5 (.int .u8 0) 1 Try.underlying22 info5 rfl .i64 .i64 n (by omega) (by omega)
  have HC := hide hcell
  clear hcell
  go_enter Try.func11, Try.ntmps11
  go_wp2
  clear hmk hq
  go_loopg [4] n (fun g t wx => ∃ j : Nat, j + g = n ∧ t = .int .i64 j ∧ wx.rowIs w.heap.size 5 n (fun i => if i < j then .int .u8 (f i) else .int .u8 0) ∧ Below w.heap.size w wx)
  case atStart => exact ⟨0, by omega, rfl, (World.rowIs_made w (.int .u8 0) n 5).congr (fun i _ => by rw [if_neg (by omega)]), (Below.refl _ _).alloc (Nat.le_refl _) _⟩
  case round =>
    obtain ⟨j, hj, rfl, hrow, hbel⟩ := hrel
    by_cases hlt : j < n
    · have h1 : wr.cell? ⟨b, off + j, none⟩ = some (.int .u8 (f j)) := (hbel.cell (p := ⟨b, off + j, none⟩) hb).trans (HC.out j hlt)
      have h2 := hrow.cell hlt
      have h3 := hrow.frozen j
      rw [if_neg (Nat.lt_irrefl _)] at h2
      have HR := hide hrow
      have HB := hide hbel
      clear hrow hbel
      go_wp2
      go_roundg (n - (j + 1))
      case measure => omega
      case rel => exact ⟨j + 1, by omega, by go_num, copied HR.out, HB.out.setCell (Nat.le_refl _) _⟩
    · have HR := hide (hrow.congr (g := fun i => .int .u8 (f i)) (fun i hi => by rw [if_pos (by omega)]))
      have HB := hide hbel
      clear hrow hbel
      go_wp2
      go_ret
      exact ⟨rfl, HR.out, HB.out⟩

theorem zz24 (a : Option Addr) (n c : Nat) (p q : Int) (w : World) (hn : n ≤ maxLen) :
    Calls Try.prog 24 #[.slice a n c, .int .i64 p, .int .i64 q] w fun e w' => e = .returned (.bool (decide (n ≤ 1048576))) ∧ w' = w := by
  unfold maxLen at hn
  by_cases h : n ≤ 1048576
  · have h1 : ¬ (1048576 : Int) < (n : Int) := by omega
    rw [decide_eq_true h]
    go_enter Try.func24, Try.ntmps24
    go_wp2
    go_ret
    exact ⟨rfl, rfl⟩
  · have h1 : (1048576 : Int) < (n : Int) := by omega
    rw [decide_eq_false h]
    go_enter Try.func24, Try.ntmps24
    go_wp2
    go_ret
    exact ⟨rfl, rfl⟩
end Go.Proofs.Qxb6602222a

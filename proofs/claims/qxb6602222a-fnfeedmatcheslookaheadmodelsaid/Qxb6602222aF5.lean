import Derived.Test.Qxb6602222aF4
import Derived.Deep.QuietTactic
import Derived.BigQuiet
namespace Go.Proofs.Qxb6602222a
open Go.RowKit

theorem cloneI_nil (w : World) :
    Calls Try.prog 18 #[.slice none 0 0] w fun e w' => e = .returned (.slice none 0 0) ∧ w' = w := by
  have hq := fun w => Lib.run_eql_slice_nil (P := Try.prog) w 26 2 none 0 0 0 0 Try.underlying26
  go_enter Try.func18, Try.ntmps18
  go_wp2
  go_ret
  exact ⟨rfl, rfl⟩

set_option maxHeartbeats 1000000 in
theorem cloneI_zero (x : Addr) (c : Nat) (w : World) :
    Calls Try.prog 18 #[.slice (some x) 0 c] w fun e w' => e = .returned (.slice (some ⟨w.heap.size, 0, none⟩) 0 0) ∧ w'.rowIs w.heap.size 2 0 (fun _ => .int .i64 0) ∧ Below w.heap.size w w' := by
  have hq := fun w => Lib.run_eql_slice_nil (P := Try.prog) w 26 2 (some x) 0 c 0 0 Try.underlying26
  have hmk : ∀ w, (Instr.makeSlice 26 (.int .i64 0) (.int .i64 0)).run Try.prog w = .ok (.slice (some ⟨w.heap.size, 0, none⟩) 0 0) (w.alloc (.cells (madeCells #[.int .i64 0] 0) 2)) := run_make_row' (P := Try.prog) 26 2 (.int .i64 0) 8 Try.underlying26 info2 rfl .i64 .i64 0 (by omega) (by omega)
  have hrow : ∀ t, (w.alloc (.cells (madeCells #[Value.int .i64 0] 0) t)).rowIs w.heap.size t 0 (fun _ => .int .i64 0) := fun t => World.rowIs_made w (.int .i64 0) 0 t
  have HR := hide hrow
  clear hrow
  go_enter Try.func18, Try.ntmps18
  go_wp2
  go_loop [4] (fun t => t = .int .i64 0) (fun _ => 0)
  case atStart => rfl
  case round =>
    subst hrel
    go_wp2
    go_ret
    exact ⟨rfl, HR.out 2, (Below.refl _ _).alloc (Nat.le_refl _) _⟩

set_option maxHeartbeats 1000000 in
theorem cloneI_some (b off n c : Nat) (f : Nat → Int) (w : World) (hn : n ≤ 131072) (hcell : ∀ i, i < n → w.cell? ⟨b, off + i, none⟩ = some (.int .i64 (f i))) (hb : b < w.heap.size) :
    Calls Try.prog 18 #[.slice (some ⟨b, off, none⟩) n c] w fun e w' => e = .returned (.slice (some ⟨w.heap.size, 0, none⟩) n n) ∧ w'.rowIs w.heap.size 2 n (fun i => .int .i64 (f i)) ∧ Below w.heap.size w w' := by
  have hq := fun w => Lib.run_eql_slice_nil (P := Try.prog) w 26 2 (some ⟨b, off, none⟩) n c 0 0 Try.underlying26
  have hmk := run_make_row' (P := Try.prog) 26 2 (.int .i64 0) 8 Try.underlying26 info2 rfl .i64 .i64 n (by omega) (by omega)
  have HC := hide hcell
  clear hcell
  go_enter Try.func18, Try.ntmps18
  go_wp2
  clear hmk hq
  go_loopg [4] n (fun g t wx => ∃ j : Nat, j + g = n ∧ t = .int .i64 j ∧ wx.rowIs w.heap.size 2 n (fun i => if i < j then .int .i64 (f i) else .int .i64 0) ∧ Below w.heap.size w wx)
  case atStart => exact ⟨0, by omega, rfl, (World.rowIs_made w (.int .i64 0) n 2).congr (fun i _ => by rw [if_neg (by omega)]), (Below.refl _ _).alloc (Nat.le_refl _) _⟩
  case round =>
    obtain ⟨j, hj, rfl, hrow, hbel⟩ := hrel
    by_cases hlt : j < n
    · have h1 : wr.cell? ⟨b, off + j, none⟩ = some (.int .i64 (f j)) := (hbel.cell (p := ⟨b, off + j, none⟩) hb).trans (HC.out j hlt)
      have h2 := hrow.cell hlt
      have h3 := hrow.frozen j
      rw [if_neg (Nat.lt_irrefl _)] at h2
      have HR := hide hrow
      have HB := hide hbel
      clear hrow hbel
      go_wp2
      go_roundg (n - (j + 1))
      case measure => omega
      case rel => exact ⟨j + 1, by omega, by go_num, copied HR.out, HB.out.setCell (Nat.le_refl _) _⟩
    · have HR := hide (hrow.congr (g := fun i => .int .i64 (f i)) (fun i hi => by rw [if_pos (by omega)]))
      have HB := hide hbel
      clear hrow hbel
      go_wp2
      go_ret
      exact ⟨rfl, HR.out, HB.out⟩

theorem own_of_row {w : World} {base h : Nat} {E : List Int} (hr : w.rowIs h 2 E.length (fun i => .int .i64 (E.getD i 0))) (hb : base ≤ h) (hm : E.length ≤ maxLen) : w.ownsRow base 2 1 (.slice (some ⟨h, 0, none⟩) E.length E.length) E.length (ints E) := by
  obtain ⟨cur, hc, hs, hcell⟩ := hr
  refine ⟨by simp [ints], .inr ⟨h, E.length, cur, rfl, hb, hc, Nat.le_refl _, hm, by simpa using hs, ?_⟩⟩
  refine List.ext_getElem? fun i => ?_
  by_cases hi : i < E.length
  · have h1 := hcell i hi
    rw [List.getElem?_take, if_pos (by omega)]
    rw [Array.getElem?_toList, h1]
    simp [ints, hi]
  · rw [List.getElem?_eq_none (by simp; omega), List.getElem?_eq_none (by simp [ints]; omega)]

theorem IsRow.below {k : IntKind} {w w' : World} {a : Option Addr} {len cap : Nat} {zs : List Int} (h : IsRow k w a len cap zs) (hb : Below w.heap.size w w') : IsRow k w' a len cap zs := by
  rcases h with h | ⟨x, h1, h2, h3, h4, h5, h6⟩
  · exact .inl h
  · exact .inr ⟨x, h1, h2, h3, h4, fun i hi => (hb.cell (World.block_lt_of_cell? w _ (h5 i hi))).trans (h5 i hi), h6⟩

/-- a clone of numbers that came in: an owned row, in a new block or nil -/
theorem cloneI_any {w : World} {a : Option Addr} {m c : Nat} {zs : List Int} (h : IsRow .i64 w a m c zs) (hm : m ≤ 131072) :
    Calls Try.prog 18 #[.slice a m c] w fun e w' => ∃ v, e = .returned v ∧ w'.ownsRow w.heap.size 2 1 v m (ints (zs.take m)) ∧ Below w.heap.size w w' ∧ (∀ k, v.ownBlock = some k → k = w.heap.size) := by
  rcases h with ⟨rfl, rfl, rfl, rfl⟩ | ⟨x, rfl, h1, h2, h3, h4, h5⟩
  · refine (cloneI_nil w).mono fun e w' ⟨e1, e2⟩ => ⟨_, e1, ?_, e2 ▸ Below.refl _ _, fun k hk => by simp [Value.ownBlock] at hk⟩
    exact World.ownsRow_nil _ _ _ _
  · have hlen : (zs.take m).length = m := by simp; omega
    have hmx : (zs.take m).length ≤ maxLen := by omega
    by_cases h0 : m = 0
    · subst h0
      refine (cloneI_zero x c w).mono fun e w' ⟨e1, e2, e3⟩ => ⟨_, e1, ?_, e3, fun k hk => by simp [Value.ownBlock] at hk; omega⟩
      have := own_of_row (base := w.heap.size) (h := w.heap.size) (E := []) (w := w') (e2.congr (fun i hi => by omega)) (Nat.le_refl _) (by simp)
      simpa using this
    · have hp : 0 < zs.length := by omega
      have hx0 := h4 0 hp
      obtain ⟨b, off, spot⟩ := x
      have hspot : spot = none := by simpa [Addr.add] using World.cell?_spot hx0
      subst hspot
      have hcell : ∀ i, i < m → w.cell? ⟨b, off + i, none⟩ = some (.int .i64 ((zs.take m).getD i 0)) := fun i hi => by
        have := h4 i (by omega)
        rw [add_none] at this
        rw [this]
        congr 2
        simp [List.getD, hi]
      refine (cloneI_some b off m c (fun i => (zs.take m).getD i 0) w hm hcell (World.block_lt_of_cell? w _ (hcell 0 (by omega)))).mono fun e w' ⟨e1, e2, e3⟩ => ⟨_, e1, ?_, e3, fun k hk => by simp [Value.ownBlock] at hk; omega⟩
      have := own_of_row (base := w.heap.size) (h := w.heap.size) (E := zs.take m) (w := w') (by rw [hlen]; exact e2) (Nat.le_refl _) hmx
      rwa [hlen] at this

theorem zz17 (p0 : Int) (b1 b2 b3 : Bool) (a a' : Option Addr) (n c n' c' : Nat) (w : World) (hn : n ≤ maxLen) (hn' : n' ≤ maxLen) :
    Calls Try.prog 17 #[.int .i64 p0, .bool b1, .bool b2, .bool b3, .slice a n c, .slice a' n' c'] w fun e w' => e = .returned (.bool (decide (n + n' ≤ 1048576))) ∧ w' = w := by
  unfold maxLen at hn hn'
  by_cases h1 : n ≤ 1048576
  · have h1' : ¬ (1048576 : Int) < (n : Int) := by omega
    by_cases h2 : n' ≤ 1048576
    · have h2' : ¬ (1048576 : Int) < (n' : Int) := by omega
      by_cases h3 : n + n' ≤ 1048576
      · have h3' : ¬ (1048576 : Int) < (n : Int) + (n' : Int) := by omega
        rw [decide_eq_true h3]
        go_enter Try.func17, Try.ntmps17
        go_wp2
        go_ret
        exact ⟨rfl, rfl⟩
      · have h3' : (1048576 : Int) < (n : Int) + (n' : Int) := by omega
        rw [decide_eq_false h3]
        go_enter Try.func17, Try.ntmps17
        go_wp2
        go_ret
        exact ⟨rfl, rfl⟩
    · have h2' : (1048576 : Int) < (n' : Int) := by omega
      rw [decide_eq_false (by omega)]
      go_enter Try.func17, Try.ntmps17
      go_wp2
      go_ret
      exact ⟨rfl, rfl⟩
  · have h1' : (1048576 : Int) < (n : Int) := by omega
    rw [decide_eq_false (by omega)]
    go_enter Try.func17, Try.ntmps17
    go_wp2
    go_ret
    exact ⟨rfl, rfl⟩

theorem newFramer_any (p : Int) (ae ac cp : Bool) (w : World) :
    Calls Try.prog 19 #[.int .i64 p, .bool ae, .bool ac, .bool cp] w fun e w' => e = .returned (.pointer (some ⟨w.heap.size, 0, none⟩)) ∧ w'.rowIs w.heap.size 44 4 (frm p ae ac cp) ∧ Below w.heap.size w w' := by
  go_enter Try.func19, Try.ntmps19
  go_wp2
  go_ret
  refine ⟨rfl, ?_, (Below.refl _ _).alloc (Nat.le_refl _) _⟩
  exact World.rowIs_alloc w #[.int .i64 p, .bool ae, .bool ac, .bool cp] 44 (frm p ae ac cp) (fun i hi => by match i, hi with | 0, _ => rfl | 1, _ => rfl | 2, _ => rfl | 3, _ => rfl)

set_option maxHeartbeats 1000000 in
theorem framerState_any (fb : Nat) (p : Int) (ae ac cp : Bool) (w : World) (h : w.rowIs fb 44 4 (frm p ae ac cp)) :
    Calls Try.prog 22 #[.pointer (some ⟨fb, 0, none⟩)] w fun e w' => e = .returned (.tuple #[.int .i64 p, .bool ae, .bool ac, .bool cp]) ∧ ∃ k, w' = w.drewN k := by
  have x0 : w.cell? ⟨fb, 0, none⟩ = some (.int .i64 p) := h.cell (i := 0) (by omega)
  have x1 : w.cell? ⟨fb, 1, none⟩ = some (.bool ae) := h.cell (i := 1) (by omega)
  have x2 : w.cell? ⟨fb, 2, none⟩ = some (.bool ac) := h.cell (i := 2) (by omega)
  have x3 : w.cell? ⟨fb, 3, none⟩ = some (.bool cp) := h.cell (i := 3) (by omega)
  clear h
  go_enter Try.func22, Try.ntmps22
  go_wp2
  go_quiet (fail)
  go_wp2
  exact bodyPost_ret (v := .tuple #[.int .i64 p, .bool ae, .bool ac, .bool cp]) (by simp [results, Try.results22, go_sem]) rfl ⟨rfl, _, rfl⟩

/-- bytes under whatever value -/
def BytesV (w : World) (v : Value) (n : Nat) (f : Nat → Nat) : Prop := (v = .slice none 0 0 ∧ n = 0) ∨ ∃ g, v = .slice (some ⟨g, 0, none⟩) n n ∧ Bytes w g n f
end Go.Proofs.Qxb6602222a

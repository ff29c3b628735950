import Derived.Test.Qxb6601608aL7
import Derived.Laws.CopyOwn
namespace Go.Proofs.Qxb6601608a
open Go.RowKit
/-- what the walk is told of a slice of integers that came in -/
def IsRow (k : IntKind) (w : World) (a : Option Addr) (len cap : Nat) (zs : List Int) : Prop :=
  (a = none ∧ len = 0 ∧ cap = 0 ∧ zs = []) ∨
  ∃ x, a = some x ∧ len ≤ cap ∧ cap ≤ maxLen ∧ zs.length = cap ∧ (∀ i, i < zs.length → w.cell? (x.add i) = some (.int k (zs.getD i 0))) ∧ ∀ n ∈ zs, (Lit.int k n).wf = true

theorem size5 : (Try.prog.info? 5).map (·.size) = some 1 := by kernel_rfl
theorem cloneB_nil (w : World) :
    Calls Try.prog 22 #[.slice none 0 0] w fun e w' => e = .returned (.slice none 0 0) ∧ w' = w := by
  have hq := fun w => Lib.run_eql_slice_nil (P := Try.prog) w 28 5 none 0 0 0 0 Try.underlying28
  go_enter Try.func22, Try.ntmps22
  go_wp2
  go_ret
  exact ⟨rfl, rfl⟩
theorem splice_length {α : Type} {L cs : List α} (h : cs.length = L.length) : (splice L 0 cs).length = L.length := length_splice L 0 cs (by omega)

set_option maxHeartbeats 1000000 in
theorem cloneB_some (x : Addr) (n c : Nat) (zs : List Int) (w : World) (hn : n ≤ 1048576) (hnz : n ≤ zs.length) (hcell : ∀ i, i < zs.length → w.cell? (x.add i) = some (.int .u8 (zs.getD i 0))) (hb : ∀ i, i < n → x.block < w.heap.size) :
    Calls Try.prog 22 #[.slice (some x) n c] w fun e w' => ∃ xs, e = .returned (.slice (some ⟨w.heap.size, 0, none⟩) n n) ∧ w'.ownsRow w.heap.size 5 1 (.slice (some ⟨w.heap.size, 0, none⟩) n n) n xs ∧ Below w.heap.size w w' := by
  have hq := fun w => Lib.run_eql_slice_nil (P := Try.prog) w 28 5 (some x) n c 0 0 Try.underlying28
  have hmk := run_make_row' (P := Try.prog) 28 5 (.int .u8 0) 1 Try.underlying28 info5 rfl .i64 .i64 n (by omega) (by omega)
  obtain ⟨cs, hcs⟩ : ∃ cs : List Value, cs = (zs.take n).map (Value.int .u8) := ⟨_, rfl⟩
  have hcl : cs.length = n := by rw [hcs]; simp; omega
  have hc1 : ∀ v ∈ cs, v.oneCell' = true := by
    intro v hv
    rw [hcs] at hv
    obtain ⟨z, _, rfl⟩ := List.mem_map.1 hv
    rfl
  have hc2 : ∀ j v, cs[j]? = some v → (w.alloc (.cells (madeCells #[.int .u8 0] n) 5)).cell? (x.add j) = some v := by
    intro j v hv
    have hj : j < n := by rw [← hcl]; exact (List.getElem?_eq_some_iff.1 hv).1
    have h1 := hcell j (by omega)
    have h2 : (x.add j).block = x.block := by unfold Addr.add; split <;> rfl
    have h3 : (w.alloc (.cells (madeCells #[.int .u8 0] n) 5)).cell? (x.add j) = w.cell? (x.add j) := World.cell?_of_block (Below.heap_alloc _ _ _ (by rw [h2]; exact hb j hj))
    rw [h3, h1]
    rw [hcs] at hv
    simp [hj] at hv
    obtain ⟨z, hz, rfl⟩ := hv
    simp [List.getD, hz]
  have hcp := run_copy_row (P := Try.prog) (w.alloc (.cells (madeCells #[.int .u8 0] n) 5)) 28 28 3 5 w.heap.size 0 n n x n c (madeCells #[.int .u8 0] n) 5 cs Try.underlying28 size5 (heap_alloc_new w _) (by rw [hcl]; exact (Nat.min_self _).symm) hc2 (by rw [hcl, size_madeCells]; omega) hc1
  rw [hcl] at hcp
  obtain ⟨ar, har⟩ : ∃ ar, (List.take 0 (madeCells #[Value.int .u8 0] n).toList ++ cs ++ List.drop (0 + n) (madeCells #[Value.int .u8 0] n).toList).toArray = ar := ⟨_, rfl⟩
  rw [har] at hcp
  have hal : ar.size = n := by
    rw [← har]
    simp only [List.size_toArray, List.length_append, List.length_take, List.length_drop, Array.length_toList, size_madeCells, hcl]
    omega
  obtain ⟨W2, hW2⟩ : ∃ W2, (w.alloc (.cells (madeCells #[.int .u8 0] n) 5)).setRow w.heap.size ar = W2 := ⟨_, rfl⟩
  rw [hW2] at hcp
  have hown : W2.ownsRow w.heap.size 5 1 (.slice (some ⟨w.heap.size, 0, none⟩) n n) n (ar.toList.take n) := by
    refine ⟨by simp [hal], .inr ⟨w.heap.size, n, ar, rfl, Nat.le_refl _, ?_, Nat.le_refl _, by unfold maxLen; omega, by omega, by simp⟩⟩
    rw [← hW2]
    exact setRow_heap _ _ _ _ _ _ (heap_alloc_new w _)
  have hbel : Below w.heap.size w W2 := by rw [← hW2]; exact below_setRow ((Below.refl _ _).alloc (Nat.le_refl _) _) (Nat.le_refl _) _
  have HO := hide hown
  have HB := hide hbel
  clear hcell hb hcs hc1 hc2 hcl har hal hW2 hown hbel
  go_enter Try.func22, Try.ntmps22
  go_wp2
  go_ret
  exact ⟨_, rfl, HO.out, HB.out⟩

/-- the clone of a slice that came in -/
theorem cloneB_any {w : World} {a : Option Addr} {n c : Nat} {zs : List Int} (h : IsRow .u8 w a n c zs) (hn : n ≤ 1048576) :
    Calls Try.prog 22 #[.slice a n c] w fun e w' => ∃ al m cl xs, e = .returned (.slice al m cl) ∧ w'.ownsRow w.heap.size 5 1 (.slice al m cl) m xs ∧ Below w.heap.size w w' := by
  rcases h with ⟨rfl, rfl, rfl, _⟩ | ⟨x, rfl, h1, h2, h3, h4, h5⟩
  · refine (cloneB_nil w).mono ?_
    rintro e w' ⟨rfl, rfl⟩
    exact ⟨none, 0, 0, [], rfl, World.ownsRow_nil _ _ _ _, Below.refl _ _⟩
  · refine (cloneB_some x n c zs w hn (by omega) h4 (fun i hi => ?_)).mono ?_
    · have h6 := h4 i (by omega)
      have h7 : (x.add i).block = x.block := by unfold Addr.add; split <;> rfl
      rcases Nat.lt_or_ge x.block w.heap.size with h8 | h8
      · exact h8
      · rw [← h7] at h8
        simp [World.cell?, Array.getElem?_eq_none h8] at h6
    · rintro e w' ⟨xs, rfl, h6, h7⟩
      exact ⟨_, n, n, xs, rfl, h6, h7⟩

set_option maxHeartbeats 1000000 in
theorem equalInts_same (g h n c d : Nat) (f : Nat → Int) (w : World) (hn : n ≤ 2000000) (h1 : ∀ i, i < n → w.cell? ⟨g, i, none⟩ = some (.int .i64 (f i))) (h2 : ∀ i, i < n → w.cell? ⟨h, i, none⟩ = some (.int .i64 (f i))) :
    Calls Try.prog 25 #[.slice (some ⟨g, 0, none⟩) n c, .slice (some ⟨h, 0, none⟩) n d] w fun e w' => e = .returned (.bool true) ∧ ∃ k, w' = w.drewN k := by
  have H1 := hide h1
  have H2 := hide h2
  clear h1 h2
  have e1 : ((n : Int) != (n : Int)) = false := by simp
  go_enter Try.func25, Try.ntmps25
  go_wp2
  go_loopg [5] n (fun gk t wx => ∃ j : Nat, j + gk = n ∧ t = .int .i64 j ∧ ∃ k, wx = w.drewN k)
  case atStart => exact ⟨0, by omega, rfl, 0, rfl⟩
  case round =>
    obtain ⟨j, hj, rfl, k, rfl⟩ := hrel
    by_cases hjn : j < n
    · have k1 := H1.out j hjn
      have k2 := H2.out j hjn
      have e2 : (f j != f j) = false := by simp
      go_upto_region 6 with (fail)
      go_quiet (fail)
      go_wp2
      go_roundg (n - (j + 1))
      case measure => omega
      case rel => exact ⟨j + 1, by omega, by go_num, _, rfl⟩
    · go_wp2
      go_ret
      exact ⟨rfl, k, rfl⟩

theorem zz21 (s : ByteArray) (p : Int) (a : Option Addr) (n c : Nat) (w : World) (hs : s.size ≤ maxLen) (hn : n ≤ maxLen) :
    Calls Try.prog 21 #[.string s, .int .i64 p, .slice a n c] w fun e w' => e = .returned (.bool (decide (s.size + n ≤ 1048576))) ∧ w' = w := by
  unfold maxLen at hs hn
  by_cases h1 : s.size ≤ 1048576
  · have i1 : ¬ (1048576 : Int) < (s.size : Int) := by omega
    by_cases h2 : n ≤ 1048576
    · have i2 : ¬ (1048576 : Int) < (n : Int) := by omega
      by_cases h3 : s.size + n ≤ 1048576
      · have i3 : ¬ (1048576 : Int) < (s.size : Int) + (n : Int) := by omega
        rw [decide_eq_true h3]
        go_enter Try.func21, Try.ntmps21
        go_wp2
        go_ret
        exact ⟨rfl, rfl⟩
      · have i3 : (1048576 : Int) < (s.size : Int) + (n : Int) := by omega
        rw [decide_eq_false h3]
        go_enter Try.func21, Try.ntmps21
        go_wp2
        go_ret
        exact ⟨rfl, rfl⟩
    · have i2 : (1048576 : Int) < (n : Int) := by omega
      rw [decide_eq_false (by omega)]
      go_enter Try.func21, Try.ntmps21
      go_wp2
      go_ret
      exact ⟨rfl, rfl⟩
  · have i1 : (1048576 : Int) < (s.size : Int) := by omega
    rw [decide_eq_false (by omega)]
    go_enter Try.func21, Try.ntmps21
    go_wp2
    go_ret
    exact ⟨rfl, rfl⟩
end Go.Proofs.Qxb6601608a

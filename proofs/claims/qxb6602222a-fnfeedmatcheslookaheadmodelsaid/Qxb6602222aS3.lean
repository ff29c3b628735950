import Derived.Test.Qxb6602222aS2
import Derived.Deep.RegionWith
namespace Go.Proofs.Qxb6602222a
open Go.RowKit

/-- an int in a block of its own, apart from row g -/
def Cell (w : World) (q g : Nat) (v : Int) : Prop := w.cell? ⟨q, 0, none⟩ = some (.int .i64 v) ∧ w.frozen? ⟨q, 0, none⟩ = false ∧ g ≠ q
theorem Cell.set {w : World} {q g : Nat} {v : Int} (h : Cell w q g v) (u : Value) (v' : Int) (hu : u = .int .i64 v') : Cell (w.setCell ⟨q, 0, none⟩ u) q g v' := by
  subst hu
  exact ⟨World.cell?_setCell_same w _ _ h.1, by rw [World.frozen?_setCell]; exact h.2.1, h.2.2⟩

theorem c13_ge (f : Nat → Nat) (n i : Nat) : i ≤ c13 f n i := first_ge _ _ _
theorem c13_le {f : Nat → Nat} {n i : Nat} (h : i ≤ n) : c13 f n i ≤ n := first_le h
theorem idx13 {f : Nat → Nat} {n i : Nat} : idx f 13 n i = if c13 f n i < n then ((c13 f n i : Nat) : Int) - i else -1 := rfl
theorem idx13_hit {f : Nat → Nat} {n i : Nat} (h : c13 f n i < n) : idx f 13 n i = ((c13 f n i : Nat) : Int) - i := by rw [idx13, if_pos h]
theorem idx13_miss {f : Nat → Nat} {n i : Nat} (h : ¬ c13 f n i < n) : idx f 13 n i = -1 := by rw [idx13, if_neg h]

/-- what the second search gives -/
theorem idx10 {f : Nat → Nat} {n i : Nat} (hi : i ≤ n) :
    (0 ≤ idx f 10 (c13 f n i) i ∧ (i : Int) + idx f 10 (c13 f n i) i = (cE f n i : Nat)) ∨ (idx f 10 (c13 f n i) i = -1 ∧ cE f n i = c13 f n i) := by
  unfold idx
  by_cases h : first (fun j => f j == 10) (c13 f n i) i < c13 f n i
  · rw [if_pos h, cE_hit hi rfl h]
    have := first_ge (fun j => f j == 10) (c13 f n i) i
    exact .inl ⟨by omega, by omega⟩
  · rw [if_neg h]
    exact .inr ⟨rfl, cE_miss hi h⟩

set_option maxRecDepth 100000 in
set_option maxHeartbeats 2000000 in
/-- the cache is warm: it holds the first CR -/
theorem lineEnd_warm (g n q i : Nat) (f : Nat → Nat) (w : World) (hn : n ≤ 1048576) (hi : i < n) (hrow : Bytes w g n f) (hf : ∀ j, f j < 256) (hc : Cell w q g (c13 f n i : Nat)) :
    Calls Try.prog 28 #[.slice (some ⟨g, 0, none⟩) n n, .int .i64 i, .pointer (some ⟨q, 0, none⟩)] w fun e w' => e = .returned (.int .i64 (cE f n i : Nat)) ∧ w' = w := by
  have h1 := c13_ge f n i
  have h2 := c13_le (f := f) (Nat.le_of_lt hi)
  have hx := idx10 (f := f) (Nat.le_of_lt hi)
  have hI := fun wx hr => idx_row g n (n - i) f 10 (c13 f n i) i wx hr h1 h2 hf (by omega)
  obtain ⟨k0, k1, k2⟩ := hc
  generalize c13 f n i = c at k0 h1 h2 hx hI
  have HI := hide hI
  have HROW := hide hrow
  clear hI hrow
  have hne : ¬ n = i := by omega
  rcases hx with ⟨p1, p2⟩ | ⟨p1, p2⟩
  · generalize idx f 10 c i = r at p1 p2 HI
    have hr1 : r < 9000000 := by have := first_le (p := fun j => f j == 10 || f j == 13) (Nat.le_of_lt hi); unfold cE at p2; omega
    go_enter Try.func28, Try.ntmps28
    go_wp2_with (go_at_call 30; refine (HI.out _ HROW.out).mono ?_; rintro e w' ⟨rfl, hw⟩; obtain rfl := hw.symm)
    go_ret
    exact ⟨rfl, rfl⟩
  · rw [p1] at HI
    have P2 := hide p2
    clear p2
    go_enter Try.func28, Try.ntmps28
    go_wp2_with (go_at_call 30; refine (HI.out _ HROW.out).mono ?_; rintro e w' ⟨rfl, hw⟩; obtain rfl := hw.symm)
    go_ret
    exact ⟨ret_int (by rw [P2.out]), rfl⟩
/-- block q alone may have turned -/
structure Onl (q : Nat) (w w' : World) : Prop where
  os : w'.os = w.os
  tape : w'.tape = w.tape
  output : w'.output = w.output
  size : w'.heap.size = w.heap.size
  block : ∀ k, k ≠ q → w'.heap[k]? = w.heap[k]?
theorem Onl.refl (q : Nat) (w : World) : Onl q w w := ⟨rfl, rfl, rfl, rfl, fun _ _ => rfl⟩
theorem Onl.trans {q : Nat} {a b c : World} (h : Onl q a b) (k : Onl q b c) : Onl q a c :=
  ⟨k.os.trans h.os, k.tape.trans h.tape, k.output.trans h.output, k.size.trans h.size, fun i hi => (k.block i hi).trans (h.block i hi)⟩
theorem Onl.setCell {q : Nat} {a w : World} (h : Onl q a w) (o : Nat) (v : Value) : Onl q a (w.setCell ⟨q, o, none⟩ v) :=
  h.trans ⟨rfl, rfl, rfl, by simp [World.setCell], fun k hk => Below.heap_setCell _ _ _ _ (by simpa using hk)⟩
theorem Onl.below {q B : Nat} {w w' : World} (h : Onl q w w') (hB : B ≤ q) : Below B w w' :=
  ⟨h.os, h.tape, h.output, Nat.le_of_eq h.size.symm, fun k hk => h.block k (by omega)⟩
theorem Onl.row {q : Nat} {w w' : World} (h : Onl q w w') {g t n : Nat} {f : Nat → Value} (hr : w.rowIs g t n f) (hg : g ≠ q) : w'.rowIs g t n f := hr.of_block (h.block g hg)

set_option maxRecDepth 100000 in
set_option maxHeartbeats 2000000 in
theorem lineEnd_cold (g n q i : Nat) (cr : Int) (f : Nat → Nat) (w : World) (hn : n ≤ 1048576) (hi : i < n) (hrow : Bytes w g n f) (hf : ∀ j, f j < 256) (hc : Cell w q g cr) (hcr : cr < i) :
    Calls Try.prog 28 #[.slice (some ⟨g, 0, none⟩) n n, .int .i64 i, .pointer (some ⟨q, 0, none⟩)] w fun e w' => e = .returned (.int .i64 (cE f n i : Nat)) ∧ Cell w' q g (c13 f n i : Nat) ∧ Onl q w w' := by
  have h1 := c13_ge f n i
  have h2 := c13_le (f := f) (Nat.le_of_lt hi)
  have hx := idx10 (f := f) (Nat.le_of_lt hi)
  have hI : ∀ wx, Onl q w wx → Calls Try.prog 30 #[.slice (some ⟨g, i, none⟩) (c13 f n i - i) (n - i), .int .u8 10] wx fun e w' => e = .returned (.int .i64 (idx f 10 (c13 f n i) i)) ∧ w' = wx := fun wx ho => idx_row g n (n - i) f 10 (c13 f n i) i wx (ho.row hrow hc.2.2) h1 h2 hf (by omega)
  have hJ : ∀ wx, Onl q w wx → Calls Try.prog 30 #[.slice (some ⟨g, i, none⟩) (n - i) (n - i), .int .u8 13] wx fun e w' => e = .returned (.int .i64 (idx f 13 n i)) ∧ w' = wx := fun wx ho => idx_row g n (n - i) f 13 n i wx (ho.row hrow hc.2.2) (Nat.le_of_lt hi) (Nat.le_refl _) hf (by omega)
  have HC := hide hc
  obtain ⟨k0, k1, k2⟩ := hc
  have hne : ¬ n = i := by omega
  have hcE : cE f n i ≤ n := first_le (Nat.le_of_lt hi)
  by_cases hlt : c13 f n i < n
  · rw [idx13_hit hlt] at hJ
    generalize c13 f n i = c at h1 h2 hx hI hJ hlt
    have HI := hide hI
    have HJ := hide hJ
    clear hI hJ hrow
    have hpos : 0 ≤ (c : Int) - (i : Int) := by omega
    have hsum : (i : Int) + ((c : Int) - (i : Int)) = c := by omega
    rcases hx with ⟨p1, p2⟩ | ⟨p1, p2⟩
    · generalize idx f 10 c i = r at p1 p2 HI
      have hr1 : r < 9000000 := by omega
      go_enter Try.func28, Try.ntmps28
      go_wp2_with (first | (go_at_call_of 30 (Value.int .u8 13); refine (HJ.out _ ((Onl.refl q w).setCell _ _)).mono ?_; rintro e w' ⟨rfl, hw⟩; obtain rfl := hw.symm) | (go_at_call_of 30 (Value.int .u8 10); refine (HI.out _ (((Onl.refl q w).setCell _ _).setCell _ _)).mono ?_; rintro e w' ⟨rfl, hw⟩; obtain rfl := hw.symm))
      go_ret
      exact ⟨rfl, (HC.out.set _ _ rfl).set _ _ rfl, ((Onl.refl q w).setCell _ _).setCell _ _⟩
    · rw [p1] at HI
      have P2 := hide p2
      clear p2
      go_enter Try.func28, Try.ntmps28
      go_wp2_with (first | (go_at_call_of 30 (Value.int .u8 13); refine (HJ.out _ ((Onl.refl q w).setCell _ _)).mono ?_; rintro e w' ⟨rfl, hw⟩; obtain rfl := hw.symm) | (go_at_call_of 30 (Value.int .u8 10); refine (HI.out _ (((Onl.refl q w).setCell _ _).setCell _ _)).mono ?_; rintro e w' ⟨rfl, hw⟩; obtain rfl := hw.symm))
      go_ret
      exact ⟨ret_int (by rw [P2.out]), (HC.out.set _ _ rfl).set _ _ rfl, ((Onl.refl q w).setCell _ _).setCell _ _⟩
  · rw [idx13_miss hlt] at hJ
    have hcn : c13 f n i = n := by omega
    rw [hcn] at hx hI ⊢
    have HI := hide hI
    have HJ := hide hJ
    clear hI hJ hrow hcn hlt
    rcases hx with ⟨p1, p2⟩ | ⟨p1, p2⟩
    · generalize idx f 10 n i = r at p1 p2 HI
      have hr1 : r < 9000000 := by omega
      go_enter Try.func28, Try.ntmps28
      go_wp2_with (first | (go_at_call_of 30 (Value.int .u8 13); refine (HJ.out _ ((Onl.refl q w).setCell _ _)).mono ?_; rintro e w' ⟨rfl, hw⟩; obtain rfl := hw.symm) | (go_at_call_of 30 (Value.int .u8 10); refine (HI.out _ ((Onl.refl q w).setCell _ _)).mono ?_; rintro e w' ⟨rfl, hw⟩; obtain rfl := hw.symm))
      go_ret
      exact ⟨rfl, HC.out.set _ _ rfl, (Onl.refl q w).setCell _ _⟩
    · rw [p1] at HI
      have P2 := hide p2
      clear p2
      go_enter Try.func28, Try.ntmps28
      go_wp2_with (first | (go_at_call_of 30 (Value.int .u8 13); refine (HJ.out _ ((Onl.refl q w).setCell _ _)).mono ?_; rintro e w' ⟨rfl, hw⟩; obtain rfl := hw.symm) | (go_at_call_of 30 (Value.int .u8 10); refine (HI.out _ ((Onl.refl q w).setCell _ _)).mono ?_; rintro e w' ⟨rfl, hw⟩; obtain rfl := hw.symm))
      go_ret
      exact ⟨ret_int (by rw [P2.out]), HC.out.set _ _ rfl, (Onl.refl q w).setCell _ _⟩

set_option maxRecDepth 100000 in
set_option maxHeartbeats 2000000 in
/-- from the end on -/
theorem lineEnd_end (a : Addr) (n q g : Nat) (cr : Int) (w : World) (_hn : n ≤ 1048576) (hc : Cell w q g cr) (hcr : cr ≤ n) :
    Calls Try.prog 28 #[.slice (some a) n n, .int .i64 n, .pointer (some ⟨q, 0, none⟩)] w fun e w' => e = .returned (.int .i64 n) ∧ Cell w' q g n ∧ Onl q w w' := by
  have HC := hide hc
  obtain ⟨k0, k1, k2⟩ := hc
  by_cases hlt : cr < n
  · go_enter Try.func28, Try.ntmps28
    go_wp2_with (go_at_call 30; refine (idx_none _ _ _ _).mono ?_; rintro e w' ⟨rfl, hw⟩; obtain rfl := hw.symm)
    go_ret
    exact ⟨rfl, HC.out.set _ _ rfl, (Onl.refl q w).setCell _ _⟩
  · obtain rfl : cr = n := by omega
    go_enter Try.func28, Try.ntmps28
    go_wp2_with (go_at_call 30; refine (idx_none _ _ _ _).mono ?_; rintro e w' ⟨rfl, hw⟩; obtain rfl := hw.symm)
    go_ret
    exact ⟨rfl, HC.out, Onl.refl q w⟩

set_option maxRecDepth 100000 in
set_option maxHeartbeats 2000000 in
theorem lineEnd_nil (q g : Nat) (cr : Int) (w : World) (hc : Cell w q g cr) (hcr : cr ≤ 0) :
    Calls Try.prog 28 #[.slice none 0 0, .int .i64 0, .pointer (some ⟨q, 0, none⟩)] w fun e w' => e = .returned (.int .i64 0) ∧ Cell w' q g 0 ∧ Onl q w w' := by
  have HC := hide hc
  obtain ⟨k0, k1, k2⟩ := hc
  by_cases hlt : cr < 0
  · go_enter Try.func28, Try.ntmps28
    go_wp2_with (go_at_call 30; refine (Try.bytes_IndexByte_nil _ _).mono ?_; rintro e w' ⟨rfl, hw⟩; obtain rfl := hw.symm)
    go_ret
    exact ⟨rfl, HC.out.set _ _ rfl, (Onl.refl q w).setCell _ _⟩
  · obtain rfl : cr = 0 := by omega
    go_enter Try.func28, Try.ntmps28
    go_wp2_with (go_at_call 30; refine (Try.bytes_IndexByte_nil _ _).mono ?_; rintro e w' ⟨rfl, hw⟩; obtain rfl := hw.symm)
    go_ret
    exact ⟨rfl, HC.out, Onl.refl q w⟩

theorem c13_end (f : Nat → Nat) (n : Nat) : c13 f n n = n := by
  have := c13_ge f n n; have := c13_le (f := f) (Nat.le_refl n); omega
theorem cE_end (f : Nat → Nat) (n : Nat) : cE f n n = n := by
  have := first_ge (fun j => f j == 10 || f j == 13) n n; have := first_le (p := fun j => f j == 10 || f j == 13) (Nat.le_refl n); unfold cE; omega

/-- lineEnd, on a row of the call's own -/
theorem lineEnd_row (g n q i : Nat) (cr : Int) (f : Nat → Nat) (w : World) (hn : n ≤ 1048576) (hi : i ≤ n) (hrow : Bytes w g n f) (hf : ∀ j, f j < 256) (hc : Cell w q g cr) (hcr : cr < i ∨ cr = (c13 f n i : Nat)) :
    Calls Try.prog 28 #[.slice (some ⟨g, 0, none⟩) n n, .int .i64 i, .pointer (some ⟨q, 0, none⟩)] w fun e w' => e = .returned (.int .i64 (cE f n i : Nat)) ∧ Cell w' q g (c13 f n i : Nat) ∧ Onl q w w' := by
  by_cases hlt : i < n
  · rcases hcr with h | h
    · exact lineEnd_cold g n q i cr f w hn hlt hrow hf hc h
    · subst h
      exact (lineEnd_warm g n q i f w hn hlt hrow hf hc).mono fun e w' ⟨h1, h2⟩ => ⟨h1, h2 ▸ hc, h2 ▸ Onl.refl q w⟩
  · obtain rfl : i = n := by omega
    rw [c13_end] at hcr ⊢
    rw [cE_end]
    exact lineEnd_end _ i q g cr w hn hc (by omega)

end Go.Proofs.Qxb6602222a

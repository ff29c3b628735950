import Derived.Test.Qxb6602222aS3
namespace Go.Proofs.Qxb6602222a
open Go.RowKit

theorem zzLineEnd_row (g n q i : Nat) (cr : Int) (f : Nat → Nat) (w : World) (hn : n ≤ 1048576) (hi : i ≤ n) (hrow : Bytes w g n f) (hf : ∀ j, f j < 256) (hc : Cell w q g cr) (hcr : cr < i ∨ cr = (c13 f n i : Nat)) :
    Calls Try.prog 25 #[.slice (some ⟨g, 0, none⟩) n n, .int .i64 i, .pointer (some ⟨q, 0, none⟩)] w fun e w' => e = .returned (.int .i64 (cE f n i : Nat)) ∧ Cell w' q g (c13 f n i : Nat) ∧ Onl q w w' := by
  have h := lineEnd_row g n q i cr f w hn hi hrow hf hc hcr
  have HH := hide h
  clear h
  go_enter Try.func25, Try.ntmps25
  go_wp2_with (go_at_call 28; refine HH.out.mono ?_; rintro e w' ⟨rfl, h1, h2⟩)
  go_ret
  exact ⟨rfl, h1, h2⟩
theorem zzLineEnd_nil (q g : Nat) (cr : Int) (w : World) (hc : Cell w q g cr) (hcr : cr ≤ 0) :
    Calls Try.prog 25 #[.slice none 0 0, .int .i64 0, .pointer (some ⟨q, 0, none⟩)] w fun e w' => e = .returned (.int .i64 0) ∧ Cell w' q g 0 ∧ Onl q w w' := by
  have h := lineEnd_nil q g cr w hc hcr
  have HH := hide h
  clear h
  go_enter Try.func25, Try.ntmps25
  go_wp2_with (go_at_call 28; refine HH.out.mono ?_; rintro e w' ⟨rfl, h1, h2⟩)
  go_ret
  exact ⟨rfl, h1, h2⟩

/-- what the walk is told of a slice of integers that came in -/
def IsRow (k : IntKind) (w : World) (a : Option Addr) (len cap : Nat) (zs : List Int) : Prop :=
  (a = none ∧ len = 0 ∧ cap = 0 ∧ zs = []) ∨
  ∃ x, a = some x ∧ len ≤ cap ∧ cap ≤ maxLen ∧ zs.length = cap ∧ (∀ i, i < zs.length → w.cell? (x.add i) = some (.int k (zs.getD i 0))) ∧ ∀ n ∈ zs, (Lit.int k n).wf = true

theorem u8_bounds {n : Int} (h : (Lit.int .u8 n).wf = true) : 0 ≤ n ∧ n < 256 := by
  simp [Lit.wf, IntKind.min, IntKind.max, IntKind.bits, IntKind.signed] at h
  omega

/-- the bytes as numbers -/
def byt (zs : List Int) (i : Nat) : Nat := (zs.getD i 0).toNat
theorem byt_lt {zs : List Int} (h : ∀ n ∈ zs, (Lit.int .u8 n).wf = true) (i : Nat) : byt zs i < 256 := by
  unfold byt
  by_cases hi : i < zs.length
  · have := u8_bounds (h _ (List.getElem_mem hi))
    simp [List.getD, hi]
    omega
  · simp [List.getD, Nat.le_of_not_lt hi]
theorem byt_eq {zs : List Int} (h : ∀ n ∈ zs, (Lit.int .u8 n).wf = true) (i : Nat) : zs.getD i 0 = ((byt zs i : Nat) : Int) := by
  unfold byt
  by_cases hi : i < zs.length
  · have := u8_bounds (h _ (List.getElem_mem hi))
    simp [List.getD, hi]
    omega
  · simp [List.getD, Nat.le_of_not_lt hi]

theorem add_none (b o i : Nat) : (⟨b, o, none⟩ : Addr).add i = ⟨b, o + i, none⟩ := by
  by_cases h : i = 0
  · subst h; simp [Addr.add]
  · simp [Addr.add, h]

/-- the clone of a slice that came in -/
theorem cloneB_any {w : World} {a : Option Addr} {n c : Nat} {zs : List Int} (h : IsRow .u8 w a n c zs) (hn : n ≤ 1048576) :
    ((a = none ∧ n = 0 ∧ c = 0) ∧ Calls Try.prog 11 #[.slice a n c] w fun e w' => e = .returned (.slice none 0 0) ∧ w' = w) ∨
    (∃ f : Nat → Nat, (∀ j, f j < 256) ∧ Calls Try.prog 11 #[.slice a n c] w fun e w' => e = .returned (.slice (some ⟨w.heap.size, 0, none⟩) n n) ∧ Bytes w' w.heap.size n f ∧ Below w.heap.size w w') := by
  rcases h with ⟨rfl, rfl, rfl, _⟩ | ⟨x, rfl, h1, h2, h3, h4, h5⟩
  · exact .inl ⟨⟨rfl, rfl, rfl⟩, cloneB_nil w⟩
  · refine .inr ⟨byt zs, byt_lt h5, ?_⟩
    by_cases h0 : n = 0
    · subst h0
      exact (cloneB_zero x c w).mono fun e w' ⟨e1, e2, e3⟩ => ⟨e1, e2.congr (fun i hi => by omega), e3⟩
    · have hp : 0 < zs.length := by omega
      have hx0 := h4 0 hp
      obtain ⟨b, off, spot⟩ := x
      have hspot : spot = none := by simpa [Addr.add] using World.cell?_spot hx0
      subst hspot
      have hcell : ∀ i, i < n → w.cell? ⟨b, off + i, none⟩ = some (.int .u8 ((byt zs i : Nat) : Int)) := fun i hi => by
        have := h4 i (by omega); rw [byt_eq h5, add_none] at this; exact this
      exact cloneB_some b off n c (fun i => ((byt zs i : Nat) : Int)) w (by omega) hcell (World.block_lt_of_cell? w _ (hcell 0 (by omega)))

theorem c13_here {f : Nat → Nat} {n i : Nat} (h : i ≤ n) (h1 : i < n → f i = 13) : c13 f n i = i := first_here h (fun hl => by rw [h1 hl]; rfl)
theorem c13_pass {f : Nat → Nat} {n i : Nat} (h : i < n) (h1 : f i ≠ 13) : c13 f n i = c13 f n (i + 1) := first_step h (by simpa using h1)
theorem cE_here {f : Nat → Nat} {n i : Nat} (h : i < n) (h1 : f i = 10 ∨ f i = 13) : cE f n i = i := first_here (Nat.le_of_lt h) (fun _ => by simpa using h1)
theorem cE_pass {f : Nat → Nat} {n i : Nat} (h : i < n) (h1 : f i ≠ 10) (h2 : f i ≠ 13) : cE f n i = cE f n (i + 1) := first_step h (by simp [h1, h2])
theorem c13_is {f : Nat → Nat} {n i c : Nat} (h1 : i ≤ c) (h2 : c ≤ n) (h3 : ∀ j, i ≤ j → j < c → f j ≠ 13) (h4 : c < n → f c = 13) : c13 f n i = c :=
  first_uniq h1 h2 (fun j a b => by simpa using h3 j a b) (fun h => by rw [h4 h]; rfl)

theorem cell_new (w : World) (v : Int) (g : Nat) (hg : g < w.heap.size) (t : TypeId) : Cell (w.alloc (.cells #[.int .i64 v] t)) w.heap.size g v := by
  refine ⟨?_, World.frozen?_alloc_at _ _ _ _ rfl, by omega⟩
  rw [World.cell?_alloc_at _ _ _ _ rfl]; rfl
end Go.Proofs.Qxb6602222a

import Derived.Test.Qxb6602222aF5
namespace Go.Proofs.Qxb6602222a
open Go.RowKit

/-- bytes in the block b, or nil -/
def BytesB (w : World) (b : Nat) (v : Value) (n : Nat) (f : Nat → Nat) : Prop := (v = .slice none 0 0 ∧ n = 0) ∨ (v = .slice (some ⟨b, 0, none⟩) n n ∧ Bytes w b n f)

theorem cloneB_v {w : World} {a : Option Addr} {n c : Nat} {zs : List Int} (h : IsRow .u8 w a n c zs) (hn : n ≤ 1048576) :
    ∃ f : Nat → Nat, (∀ j, f j < 256) ∧ Calls Try.prog 11 #[.slice a n c] w fun e w' => ∃ v, e = .returned v ∧ BytesB w' w.heap.size v n f ∧ Below w.heap.size w w' := by
  rcases cloneB_any h hn with ⟨⟨rfl, rfl, rfl⟩, hc⟩ | ⟨f, hf, hc⟩
  · exact ⟨fun _ => 0, fun _ => Nat.zero_lt_succ _, hc.mono fun e w' ⟨e1, e2⟩ => ⟨_, e1, .inl ⟨rfl, rfl⟩, e2 ▸ Below.refl _ _⟩⟩
  · exact ⟨f, hf, hc.mono fun e w' ⟨e1, e2, e3⟩ => ⟨_, e1, .inr ⟨rfl, e2⟩, e3⟩⟩

theorem own_block {w w' : World} {base e size : Nat} {v : Value} {n : Nat} {xs : List Value} (h : w.ownsRow base e size v n xs) (hb : ∀ k, v.ownBlock = some k → w'.heap[k]? = w.heap[k]?) : w'.ownsRow base e size v n xs := by
  obtain ⟨h1, h2⟩ := h
  refine ⟨h1, ?_⟩
  rcases h2 with h2 | ⟨g, cap, cur, rfl, h3, h4, h5⟩
  · exact .inl h2
  · exact .inr ⟨g, cap, cur, rfl, h3, (hb g rfl).trans h4, h5⟩

/-- the form of a row of numbers, with its cells -/
theorem own_form3 {w : World} {base : Nat} {v : Value} {E : List Int} (h : w.ownsRow base 2 1 v E.length (ints E)) : ∃ a c, v = .slice a E.length c ∧ ∀ i, i < E.length → ∃ g, a = some ⟨g, 0, none⟩ ∧ w.cell? ⟨g, i, none⟩ = some (.int .i64 (E.getD i 0)) := by
  rcases own_form2 h with rfl | ⟨g, cap, rfl⟩
  · have h0 : E.length = 0 := by
      rcases h.2 with ⟨_, h0⟩ | ⟨g, cap, _, hv, _⟩
      · exact h0
      · cases hv
    exact ⟨none, 0, by rw [h0], fun i hi => by omega⟩
  · refine ⟨_, cap, rfl, fun i hi => ⟨g, rfl, ?_⟩⟩
    rw [h.cellAt i (by omega)]
    simp [ints, List.getD, hi]

theorem feed_nil (fb : Nat) (v0 : Value) (W : World) :
    Calls Try.prog 20 #[.pointer (some ⟨fb, 0, none⟩), .slice none 0 0, v0] W fun e w' => e = .returned v0 ∧ w' = W.alloc (.cells #[.int .i64 (-1)] 3) := by
  go_enter Try.func20, Try.ntmps20
  go_wp2
  go_loop [2, 8, 9, 10] (fun t2 t8 _ _ => t2 = v0 ∧ t8 = .int .i64 0) (fun _ _ _ _ => 0)
  case atStart => exact ⟨rfl, rfl⟩
  case round =>
    obtain ⟨rfl, rfl⟩ := hrel
    go_wp2
    go_ret
    exact ⟨rfl, rfl⟩

theorem feed_any (fb b n base : Nat) (f : Nat → Nat) (p0 : Int) (ae0 ac0 cp0 : Bool) (vp v0 : Value) (E0 : List Int) (W : World)
    (hn : n ≤ 1048576) (hE : E0.length ≤ 131072) (hp1 : -9223372036854775808 ≤ p0) (hp2 : p0 + n ≤ 9223372036854775807) (hf : ∀ j, f j < 256)
    (hfr : W.rowIs fb 44 4 (frm p0 ae0 ac0 cp0)) (hby : BytesB W b vp n f) (hfg : vp ≠ .slice none 0 0 → fb ≠ b) (hown : W.ownsRow base 2 1 v0 E0.length (ints E0)) (hob : ∀ k, v0.ownBlock = some k → k ≠ fb ∧ (vp ≠ .slice none 0 0 → k ≠ b)) (hbs : base ≤ W.heap.size) :
    Calls Try.prog 20 #[.pointer (some ⟨fb, 0, none⟩), vp, v0] W fun e w' => ∃ ae ac cp out v, fd f n p0 (n + 1) 0 ae0 ac0 cp0 [] = (ae, ac, cp, out) ∧ e = .returned v ∧
      w'.rowIs fb 44 4 (frm (p0 + n) ae ac cp) ∧ w'.ownsRow base 2 1 v (E0 ++ out).length (ints (E0 ++ out)) ∧ Kept (fun k => k = fb ∨ v0.ownBlock = some k) W w' ∧ out.length ≤ 2 * n := by
  rcases hby with ⟨rfl, rfl⟩ | ⟨rfl, hby⟩
  · refine (feed_nil fb v0 W).mono fun e w' ⟨e1, e2⟩ => ⟨ae0, ac0, cp0, [], v0, fd_end (by omega), e1, ?_, ?_, ?_, by simp⟩
    · rw [show p0 + ((0 : Nat) : Int) = p0 by omega, e2]; exact hfr.alloc _
    · rw [List.append_nil, e2]; exact hown.alloc _
    · rw [e2]; exact (Kept.refl _ W).trans rfl rfl rfl (by simp) (fun k hk _ => Below.heap_alloc W _ k hk)
  · exact feed_row fb b n base f p0 ae0 ac0 cp0 v0 E0 W hn hE hp1 hp2 hf hfr hby (hfg (by simp)) hown (fun k hk => ⟨(hob k hk).1, (hob k hk).2 (by simp)⟩) hbs

theorem model_any (b n : Nat) (f : Nat → Nat) (p0 : Int) (ae ac cp : Bool) (vp : Value) (W : World) (hn : n ≤ 1048576) (hp1 : -9223372036854775808 ≤ p0) (hp2 : p0 + n ≤ 9223372036854775807) (hby : BytesB W b vp n f) :
    Calls Try.prog 21 #[.int .i64 p0, .bool ae, .bool ac, .bool cp, vp] W fun e w' => ∃ ae' ac' cp' out v, fd f n p0 (n + 1) 0 ae ac cp [] = (ae', ac', cp', out) ∧ e = .returned (.agg #[v, .int .i64 (p0 + n), .bool ae', .bool ac', .bool cp']) ∧
      w'.ownsRow W.heap.size 2 1 v out.length (ints out) ∧ Below W.heap.size W w' := by
  have key : ∀ (a : Option Addr) (c : Nat), n = 0 → Calls Try.prog 21 #[.int .i64 p0, .bool ae, .bool ac, .bool cp, .slice a 0 c] W fun e w' => ∃ ae' ac' cp' out v, fd f n p0 (n + 1) 0 ae ac cp [] = (ae', ac', cp', out) ∧ e = .returned (.agg #[v, .int .i64 (p0 + n), .bool ae', .bool ac', .bool cp']) ∧
      w'.ownsRow W.heap.size 2 1 v out.length (ints out) ∧ Below W.heap.size W w' := fun a c h0 => by
    subst h0
    refine (model_zero p0 ae ac cp a c W hp1 (by omega)).mono fun e w' ⟨e1, e2⟩ => ⟨ae, ac, cp, [], _, fd_end (by omega), ?_, World.ownsRow_nil _ _ _ _, e2⟩
    rw [show p0 + ((0 : Nat) : Int) = p0 by omega]; exact e1
  rcases hby with ⟨rfl, h0⟩ | ⟨rfl, hby⟩
  · exact key none 0 h0
  · by_cases h0 : n = 0
    · have := key (some ⟨b, 0, none⟩) n h0
      rw [h0] at this ⊢
      exact this
    · exact (model_row b n f p0 ae ac cp W hn (by omega) hp1 hp2 hby).mono fun e w' ⟨ae', ac', cp', out, v, h1, h2, h3, h4, _⟩ => ⟨ae', ac', cp', out, v, (fd_FM ..).trans h1, h2, h3, h4⟩
end Go.Proofs.Qxb6602222a

import Derived.Test.Qxb6601608aL3
namespace Go.Proofs.Qxb6601608a
open Go.RowKit
/-- the natural lines from a place on: start, end, the next line's start; and the empty one at the text's end -/
def cutL (s : ByteArray) : Nat → Nat → List (Nat × Nat × Nat)
  | 0, _ => []
  | g + 1, i => (i, lineE s i, skipL s (lineE s i)) :: if lineE s i = s.size then [(s.size, s.size, s.size)] else cutL s g (skipL s (lineE s i))
theorem cutL_last {s : ByteArray} {g i e : Nat} (he : lineE s i = e) (h : e = s.size) : cutL s (g + 1) i = [(i, e, skipL s e), (s.size, s.size, s.size)] := by
  subst he; rw [cutL, if_pos h]
theorem cutL_more {s : ByteArray} {g i e : Nat} (he : lineE s i = e) (h : e ≠ s.size) : cutL s (g + 1) i = (i, e, skipL s e) :: cutL s g (skipL s e) := by
  subst he; rw [cutL, if_neg h]

def ints (E : List Nat) : List Value := E.map fun x => .int .i64 (x : Nat)
theorem oneInt (x : Int) : ∀ u ∈ ([.int .i64 x] : List Value), u.oneCell' = true := by
  intro u hu; simp at hu; subst hu; rfl
/-- three rows of numbers, apart -/
structure TR (W w : World) (a b c : Value) (A B C : List Nat) : Prop where
  ra : w.ownsRow W.heap.size 3 1 a A.length (ints A)
  rb : w.ownsRow W.heap.size 3 1 b B.length (ints B)
  rc : w.ownsRow W.heap.size 3 1 c C.length (ints C)
  ab : ∀ k, a.ownBlock = some k → b.ownBlock ≠ some k
  ac : ∀ k, a.ownBlock = some k → c.ownBlock ≠ some k
  bc : ∀ k, b.ownBlock = some k → c.ownBlock ≠ some k
  bel : Below W.heap.size W w
section
variable {W w : World} {a b c : Value} {A B C : List Nat}
theorem TR.swap (h : TR W w a b c A B C) : TR W w b a c B A C :=
  ⟨h.rb, h.ra, h.rc, fun k h1 h2 => h.ab k h2 h1, h.bc, h.ac, h.bel⟩
theorem TR.swap2 (h : TR W w a b c A B C) : TR W w c b a C B A :=
  ⟨h.rc, h.rb, h.ra, fun k h1 h2 => h.bc k h2 h1, fun k h1 h2 => h.ac k h2 h1, fun k h1 h2 => h.ab k h2 h1, h.bel⟩
theorem TR.app1 (h : TR W w a b c A B C) (o : Obj) (x : Nat) {w' : World} {g cap : Nat}
    (hown : w'.ownsRow W.heap.size 3 1 (.slice (some ⟨g, 0, none⟩) (A.length + 1) cap) (A.length + 1) (ints A ++ [.int .i64 (x : Nat)])) (hg : (w.alloc o).grownBy w' a.ownBlock) (hloc : a.ownBlock = some g ∨ g = (w.alloc o).heap.size) :
    TR W w' (.slice (some ⟨g, 0, none⟩) (A.length + 1) cap) b c (A ++ [x]) B C := by
  have hblk : ∀ k, k < w.heap.size → a.ownBlock ≠ some k → w'.heap[k]? = w.heap[k]? := fun k hk hne => by
    rw [hg.block k (by simp; omega) (Ne.symm hne)]
    exact Below.heap_alloc w o k hk
  have hsz : w.heap.size + 1 ≤ w'.heap.size := by have := hg.size; simpa using this
  have hWl := h.bel.size
  have hs : (w.alloc o).heap.size = w.heap.size + 1 := by simp
  rw [hs] at hloc
  have far : ∀ {d : Value} {n : Nat} {xs : List Value}, w.ownsRow W.heap.size 3 1 d n xs → (∀ k, a.ownBlock = some k → d.ownBlock ≠ some k) → ∀ k, (Value.slice (some ⟨g, 0, none⟩) (A.length + 1) cap).ownBlock = some k → d.ownBlock ≠ some k := by
    intro d n xs hd hne k hk hk2
    obtain rfl : g = k := by simpa [Value.ownBlock] using hk
    rcases hloc with h1 | h1
    · exact hne g h1 hk2
    · have := (hd.lt g hk2).2; omega
  refine ⟨?_, own_block h.rb (fun k hk => hblk k (h.rb.lt k hk).2 (fun e => h.ab k e hk)), own_block h.rc (fun k hk => hblk k (h.rc.lt k hk).2 (fun e => h.ac k e hk)), far h.rb h.ab, far h.rc h.ac, h.bc, ?_⟩
  · have e1 : (A ++ [x]).length = A.length + 1 := by simp
    have e2 : ints (A ++ [x]) = ints A ++ [.int .i64 (x : Nat)] := by simp [ints]
    rw [e1, e2]; exact hown
  · refine h.bel.trans ⟨hg.os, hg.tape, hg.output, by omega, fun k hk => hblk k (by omega) (fun e => by have := (h.ra.lt k e).1; omega)⟩
theorem TR.app2 (h : TR W w a b c A B C) (o : Obj) (x : Nat) {w' : World} {g cap : Nat}
    (hown : w'.ownsRow W.heap.size 3 1 (.slice (some ⟨g, 0, none⟩) (B.length + 1) cap) (B.length + 1) (ints B ++ [.int .i64 (x : Nat)])) (hg : (w.alloc o).grownBy w' b.ownBlock) (hloc : b.ownBlock = some g ∨ g = (w.alloc o).heap.size) :
    TR W w' a (.slice (some ⟨g, 0, none⟩) (B.length + 1) cap) c A (B ++ [x]) C := (h.swap.app1 o x hown hg hloc).swap
theorem TR.app3 (h : TR W w a b c A B C) (o : Obj) (x : Nat) {w' : World} {g cap : Nat}
    (hown : w'.ownsRow W.heap.size 3 1 (.slice (some ⟨g, 0, none⟩) (C.length + 1) cap) (C.length + 1) (ints C ++ [.int .i64 (x : Nat)])) (hg : (w.alloc o).grownBy w' c.ownBlock) (hloc : c.ownBlock = some g ∨ g = (w.alloc o).heap.size) :
    TR W w' a b (.slice (some ⟨g, 0, none⟩) (C.length + 1) cap) A B (C ++ [x]) := (h.swap2.app1 o x hown hg hloc).swap2
end

def st1 (T : List (Nat × Nat × Nat)) : List Nat := T.map fun x => x.1
def st2 (T : List (Nat × Nat × Nat)) : List Nat := T.map fun x => x.2.1
def st3 (T : List (Nat × Nat × Nat)) : List Nat := T.map fun x => x.2.2
def TT (W w : World) (a b c : Value) (T : List (Nat × Nat × Nat)) : Prop := TR W w a b c (st1 T) (st2 T) (st3 T)

set_option maxRecDepth 100000 in
set_option maxHeartbeats 4000000 in
theorem cutLines_any (s : ByteArray) (p : Nat) (w : World) (hs : s.size ≤ 1048576) (hp : p ≤ s.size) :
    Calls Try.prog 33 #[.string s, .int .i64 p] w fun e w' => ∃ a b c, e = .returned (.tuple #[a, b, c]) ∧ TT w w' a b c (cutL s (s.size + 1) p) := by
  have hs' : s.size ≤ maxLen := by unfold maxLen; omega
  obtain ⟨i0, hi0, hz0, hz1, hz2⟩ := info_parts info3
  have HI := hide hi0
  have HZ0 := hide hz0
  have HZ1 := hide hz1
  have HZ2 := hide hz2
  clear hi0 hz0 hz1 hz2
  go_enter Try.func33, Try.ntmps33
  go_wp2
  go_loopg [7, 8, 9, 10, 11, 12] (s.size + 1) (fun g t7 t8 t9 t10 _ _ wx => ∃ (i : Nat) (T : List (Nat × Nat × Nat)), i ≤ s.size ∧ s.size < i + g ∧ T.length + p ≤ i ∧ t10 = .int .i64 i ∧ TT w wx t7 t8 t9 T ∧ cutL s (s.size + 1) p = T ++ cutL s g i)
  case atStart => exact ⟨p, [], hp, by omega, by simp, rfl, ⟨World.ownsRow_nil _ _ _ _, World.ownsRow_nil _ _ _ _, World.ownsRow_nil _ _ _ _, fun k h => by simp [Value.ownBlock] at h, fun k h => by simp [Value.ownBlock] at h, fun k h => by simp [Value.ownBlock] at h, Below.refl _ _⟩, rfl⟩
  case round =>
    obtain ⟨i, T, hi1, hi2, hT, rfl, hTT, hcut⟩ := hrel
    obtain ⟨gg, rfl⟩ : ∃ gg, gk = gg + 1 := ⟨gk - 1, by omega⟩
    have H0 : Hid (TR w wr u7 u8 u9 (st1 T) (st2 T) (st3 T)) := hide hTT
    have hb1 : (st1 T).length ≤ 1048577 := by simp [st1]; omega
    have hb2 : (st2 T).length ≤ 1048577 := by simp [st2]; omega
    have hb3 : (st3 T).length ≤ 1048577 := by simp [st3]; omega
    have hbs0 := H0.out.bel.size
    have HCUT := hide hcut
    clear hTT hcut
    have HCE := hide (fun wx => modelLineEnd_any s i wx hs' hi1)
    have he1 := lineE_ge s i
    have he2 := lineE_le hi1
    have HCP := hide (fun wx => pastLineEnd_any s (lineE s i) wx hs' he2)
    obtain ⟨e, he⟩ : ∃ e, lineE s i = e := ⟨_, rfl⟩
    rw [he] at HCE HCP he1 he2
    have HE := hide he
    obtain ⟨q, hq⟩ : ∃ q, skipL s e = q := ⟨_, rfl⟩
    rw [hq] at HCP
    have HQ := hide hq
    have hq1 : q ≤ s.size := by rw [← hq]; exact skipL_le
    clear he hq
    go_upto_region 7 with (first | (go_at_call 30; refine (HCE.out _).mono ?_; rintro e' w' ⟨rfl, hw⟩; obtain rfl := hw.symm) | (go_at_call 31; refine (HCP.out _).mono ?_; rintro e' w' ⟨rfl, hw⟩; obtain rfl := hw.symm))
    go_upto_region 8 with (at_builtin; refine wpList_append_lies _ rfl _ _ 37 rfl w.heap.size 3 i0 (.int .i64 0) 1 8 Try.underlying37 HI.out HZ0.out HZ1.out HZ2.out rfl (by decide) _ _ _ rfl (H0.out.ra.alloc _) ⟨wr.heap.size, 0, none⟩ 1 1 [.int .i64 (i : Nat)] rfl rfl (World.news_of_block (cs := #[.int .i64 (i : Nat)]) (heap_alloc_new wr _)) (oneInt _) (by decide) (by (try simp only [List.length_append, List.length_singleton]); unfold maxLen; omega) (by (try simp only [List.length_append, List.length_singleton]); omega) (by simp; omega) _ rfl ?_; intro g1 cap1 w1 hown1 hgrow1 hloc1 hlt1; have H1 := hide (H0.out.app1 _ i hown1 hgrow1 hloc1); clear hown1 hgrow1 hloc1 hlt1)
    have hbs1 := H1.out.bel.size
    clear H0
    go_upto_region 9 with (at_builtin; refine wpList_append_lies _ rfl _ _ 37 rfl w.heap.size 3 i0 (.int .i64 0) 1 8 Try.underlying37 HI.out HZ0.out HZ1.out HZ2.out rfl (by decide) _ _ _ rfl (H1.out.rb.alloc _) ⟨w1.heap.size, 0, none⟩ 1 1 [.int .i64 (e : Nat)] rfl rfl (World.news_of_block (cs := #[.int .i64 (e : Nat)]) (heap_alloc_new w1 _)) (oneInt _) (by decide) (by (try simp only [List.length_append, List.length_singleton]); unfold maxLen; omega) (by (try simp only [List.length_append, List.length_singleton]); omega) (by simp; omega) _ rfl ?_; intro g2 cap2 w2 hown2 hgrow2 hloc2 hlt2; have H2 := hide (H1.out.app2 _ e hown2 hgrow2 hloc2); clear hown2 hgrow2 hloc2 hlt2)
    have hbs2 := H2.out.bel.size
    clear H1
    go_upto_region 10 with (at_builtin; refine wpList_append_lies _ rfl _ _ 37 rfl w.heap.size 3 i0 (.int .i64 0) 1 8 Try.underlying37 HI.out HZ0.out HZ1.out HZ2.out rfl (by decide) _ _ _ rfl (H2.out.rc.alloc _) ⟨w2.heap.size, 0, none⟩ 1 1 [.int .i64 (q : Nat)] rfl rfl (World.news_of_block (cs := #[.int .i64 (q : Nat)]) (heap_alloc_new w2 _)) (oneInt _) (by decide) (by (try simp only [List.length_append, List.length_singleton]); unfold maxLen; omega) (by (try simp only [List.length_append, List.length_singleton]); omega) (by simp; omega) _ rfl ?_; intro g3 cap3 w3 hown3 hgrow3 hloc3 hlt3; have H3 := hide (H2.out.app3 _ q hown3 hgrow3 hloc3); clear hown3 hgrow3 hloc3 hlt3)
    have hbs3 := H3.out.bel.size
    clear H2
    by_cases hes : e = s.size
    · have hend := cutL_last (g := gg) HE.out hes
      have HEND := hide hend
      have e1 : ((e : Int) == (s.size : Int)) = true := by simp; omega
      clear hend hes
      go_upto_region 13 with (at_builtin; refine wpList_append_lies _ rfl _ _ 37 rfl w.heap.size 3 i0 (.int .i64 0) 1 8 Try.underlying37 HI.out HZ0.out HZ1.out HZ2.out rfl (by decide) _ _ _ rfl (H3.out.ra.alloc _) ⟨w3.heap.size, 0, none⟩ 1 1 [.int .i64 (s.size : Nat)] rfl rfl (World.news_of_block (cs := #[.int .i64 (s.size : Nat)]) (heap_alloc_new w3 _)) (oneInt _) (by decide) (by (try simp only [List.length_append, List.length_singleton]); unfold maxLen; omega) (by (try simp only [List.length_append, List.length_singleton]); omega) (by simp; omega) _ rfl ?_; intro g4 cap4 w4 hown4 hgrow4 hloc4 hlt4; have H4 := hide (H3.out.app1 _ s.size hown4 hgrow4 hloc4); clear hown4 hgrow4 hloc4 hlt4)
      have hbs4 := H4.out.bel.size
      clear H3
      go_upto_region 14 with (at_builtin; refine wpList_append_lies _ rfl _ _ 37 rfl w.heap.size 3 i0 (.int .i64 0) 1 8 Try.underlying37 HI.out HZ0.out HZ1.out HZ2.out rfl (by decide) _ _ _ rfl (H4.out.rb.alloc _) ⟨w4.heap.size, 0, none⟩ 1 1 [.int .i64 (s.size : Nat)] rfl rfl (World.news_of_block (cs := #[.int .i64 (s.size : Nat)]) (heap_alloc_new w4 _)) (oneInt _) (by decide) (by (try simp only [List.length_append, List.length_singleton]); unfold maxLen; omega) (by (try simp only [List.length_append, List.length_singleton]); omega) (by simp; omega) _ rfl ?_; intro g5 cap5 w5 hown5 hgrow5 hloc5 hlt5; have H5 := hide (H4.out.app2 _ s.size hown5 hgrow5 hloc5); clear hown5 hgrow5 hloc5 hlt5)
      have hbs5 := H5.out.bel.size
      clear H4
      go_wp2_with (at_builtin; refine wpList_append_lies _ rfl _ _ 37 rfl w.heap.size 3 i0 (.int .i64 0) 1 8 Try.underlying37 HI.out HZ0.out HZ1.out HZ2.out rfl (by decide) _ _ _ rfl (H5.out.rc.alloc _) ⟨w5.heap.size, 0, none⟩ 1 1 [.int .i64 (s.size : Nat)] rfl rfl (World.news_of_block (cs := #[.int .i64 (s.size : Nat)]) (heap_alloc_new w5 _)) (oneInt _) (by decide) (by (try simp only [List.length_append, List.length_singleton]); unfold maxLen; omega) (by (try simp only [List.length_append, List.length_singleton]); omega) (by simp; omega) _ rfl ?_; intro g6 cap6 w6 hown6 hgrow6 hloc6 hlt6; have H6 := hide (H5.out.app3 _ s.size hown6 hgrow6 hloc6); clear hown6 hgrow6 hloc6 hlt6)
      have hbs6 := H6.out.bel.size
      clear H5
      refine bodyPost_ret (v := .tuple #[.slice (some ⟨g4, 0, none⟩) ((st1 T ++ [i]).length + 1) cap4, .slice (some ⟨g5, 0, none⟩) ((st2 T ++ [e]).length + 1) cap5, .slice (some ⟨g6, 0, none⟩) ((st3 T ++ [q]).length + 1) cap6]) (by simp [results, Try.results33, go_sem]) rfl ⟨_, _, _, rfl, ?_⟩
      have h := H6.out
      rw [HCUT.out, HEND.out, HQ.out]
      simpa [TT, st1, st2, st3] using h
    · have HEND := hide (cutL_more (g := gg) HE.out hes)
      have e1 : ((e : Int) == (s.size : Int)) = false := by simp; omega
      have hgt : e < q := by rw [← HQ.out]; exact skipL_gt (by omega)
      clear hes
      go_wp2
      go_roundg gg
      case measure => omega
      case rel =>
        refine ⟨q, T ++ [(i, e, q)], hq1, by omega, by rw [List.length_append, List.length_singleton]; omega, rfl, ?_, ?_⟩
        · have h := H3.out
          simpa [TT, st1, st2, st3] using h
        · rw [HCUT.out, HEND.out, HQ.out]; simp
end Go.Proofs.Qxb6601608a

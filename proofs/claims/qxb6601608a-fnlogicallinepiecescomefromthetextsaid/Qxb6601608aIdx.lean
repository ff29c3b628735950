import Derived.Test.Qxb6601608aW1
import Derived.Laws.RangeAny
import Derived.Laws.Runes
import Derived.Lib.OthersKept
import Derived.Deep.LoopGhost
import Derived.Deep.QuietTactic
import Derived.BigQuiet
import Derived.WalkMore
import Derived.LoopN
namespace Go.Proofs.Qxb6601608a
open Go.RowKit

def Asc (c : ByteArray) : Prop := ∀ b ∈ c.data.toList, b.toNat < 128
theorem Asc.at {c : ByteArray} (h : Asc c) {i : Nat} (hi : i < c.size) : (c[i]'hi).toNat < 128 := h _ (by exact Array.getElem_mem_toList (xs := c.data) hi)

set_option maxRecDepth 100000 in
set_option maxHeartbeats 1000000 in
theorem indexRune_err (c : ByteArray) (w : World) (hc : Asc c) :
    Calls Try.prog 44 #[.string c, .int .i32 65533] w fun e w' => e = .returned (.int .i64 (-1)) ∧ Below w.heap.size w w' := by
  have HA : Hid (Asc c) := hc
  clear hc
  go_enter Try.func44, Try.ntmps44
  go_wp2
  go_loopg [5, 6] c.size (fun g _ _ wx => ∃ i : Nat, i + g = c.size ∧ wx = w.iter c i)
  case atStart => exact ⟨0, by omega, rfl⟩
  case round =>
    obtain ⟨i, hig, rfl⟩ := hrel
    cases gk with
    | zero =>
      obtain rfl : i = c.size := by omega
      have hnx := run_next_end (P := Try.prog) w c c.size
      go_wp2
      go_ret
      exact ⟨rfl, (Below.refl _ _).alloc (Nat.le_refl _) _⟩
    | succ g =>
      have hi : i < c.size := by omega
      have hlt := HA.out.at hi
      have hnx := fun ty => run_next_ascii (P := Try.prog) w c i ty hi hlt
      have hne : ((((c[i]'hi).toNat : Nat) : Int) == 65533) = false := by simp; omega
      go_wp2
      go_roundg g
      case measure => omega
      case rel => exact ⟨i + 1, by omega, rfl⟩

theorem ib_none {l : List UInt8} {c : UInt8} (h : ¬ c ∈ l) : Lib.indexByte l c = -1 := by
  induction l with
  | nil => rfl
  | cons b l ih =>
    have h1 : (b == c) = false := by
      refine beq_eq_false_iff_ne.2 fun e => h ?_
      rw [e]; exact List.mem_cons_self
    rw [Lib.indexByte, h1, ih (fun hm => h (List.mem_cons_of_mem _ hm))]
    rfl

set_option maxRecDepth 100000 in
set_option maxHeartbeats 1000000 in
theorem indexRune_high (c : ByteArray) (r : Int) (w : World) (hc : Asc c) (hsz : c.size ≤ maxLen) (h1 : 128 ≤ r) (h2 : r ≠ 65533) :
    Calls Try.prog 44 #[.string c, .int .i32 r] w fun e w' => e = .returned (.int .i64 (-1)) ∧ Below w.heap.size w w' := by
  unfold maxLen at hsz
  have HA : Hid (Asc c) := hc
  clear hc
  have hne : (r == 65533) = false := by simpa using h2
  have hfacts : Lib.validRune r = true → 2 ≤ (Utf8.encode r).size ∧ (Utf8.encode r).size ≤ 4 ∧ ∀ h : (Utf8.encode r).size - 1 < (Utf8.encode r).size, 128 ≤ ((Utf8.encode r)[(Utf8.encode r).size - 1]'h).toNat := fun hv => encode_facts r (by rw [validRune_eq]; exact hv) h1
  obtain ⟨E, hE⟩ : ∃ E, Utf8.encode r = E := ⟨_, rfl⟩
  rw [hE] at hfacts
  cases hv : Lib.validRune r
  · go_enter Try.func44, Try.ntmps44
    go_wp2_with (go_at_call 50; refine (Try.utf8_ValidRune _ _).mono ?_; rintro e w' ⟨rfl, rfl⟩)
    go_ret
    exact ⟨rfl, Below.refl _ _⟩
  · obtain ⟨e1, e2, e3⟩ := hfacts hv
    have e4 := e3 (by omega)
    clear e3 hfacts
    obtain ⟨l, hl⟩ : ∃ l, E.size = l + 1 := ⟨E.size - 1, by omega⟩
    have hll : l < E.size := by omega
    have e5 : 128 ≤ (E[l]'hll).toNat := by simpa [hl] using e4
    clear e4
    go_enter Try.func44, Try.ntmps44
    go_wp2_with (go_at_call 50; refine (Try.utf8_ValidRune _ _).mono ?_; rintro e w' ⟨rfl, rfl⟩)
    go_step3
    go_wp2
    refine wp_loop_rounds 1 ?_
    rw [rounds_succ]
    by_cases hlt : l < c.size
    · have hlt2 : (l : Int) < (c.size : Int) := by omega
      have hca : (c[l]'hlt).toNat < 128 := HA.out.at hlt
      have hnq : ((((c[l]'hlt).toNat : Nat) : Int) != (((E[l]'hll).toNat : Nat) : Int)) = true := by simp; omega
      go_wp2
      go_step3
      go_wp2
      have hll2 : (l : Int) < (E.size : Int) := by omega
      clear hl
      go_quiet (fail)
      obtain ⟨W1, hW1⟩ : ∃ W1, W1 = w'.drewN nq := ⟨_, rfl⟩
      rw [← hW1]
      have HW : Hid (W1 = w'.drewN nq) := hW1
      clear hW1
      go_wp2
      have hwr : IntKind.i64.wrap ((l : Int) + 1) = ((l + 1 : Nat) : Int) := by rw [wrap_small _ (by omega) (by omega)]; omega
      have hb1 : (l : Int) + 1 ≤ (c.size : Int) := by omega
      have hb2 : 0 ≤ (l : Int) + 1 := by omega
      have hcall : ∀ wx, Calls Try.prog 49 #[.string (c.extract (l + 1) c.size), .int .u8 ((E[l]'hll).toNat : Nat)] wx fun e w' => e = .returned (.int .i64 (-1)) ∧ w' = wx := fun wx => by
        refine (Try.strings_IndexByte _ _ _).mono fun e w' ⟨he, hw⟩ => ⟨?_, hw⟩
        rw [he, ib_none]
        intro hm
        have := HA.out _ (mem_extract hm)
        simp at this
        omega
      go_quiet ((go_at_call 49; refine Calls.quiet_of_same (hcall _)))
      go_wp2
      rw [Exit.noGoto_ret]
      go_wp2
      rw [Exit.noGoto_ret]
      go_wp2
      go_ret
      exact ⟨rfl, by rw [HW.out]; exact below_drewN (below_drewN (Below.refl _ _) _) _⟩
    · have hlt2 : ¬ (l : Int) < (c.size : Int) := by omega
      go_wp2
      go_ret
      exact ⟨rfl, Below.refl _ _⟩

theorem indexRune_hi (c : ByteArray) (r : Int) (w : World) (hc : Asc c) (hsz : c.size ≤ maxLen) (h1 : 128 ≤ r) :
    Calls Try.prog 44 #[.string c, .int .i32 r] w fun e w' => e = .returned (.int .i64 (-1)) ∧ Below w.heap.size w w' := by
  by_cases h : r = 65533
  · rw [h]; exact indexRune_err c w hc
  · exact indexRune_high c r w hc hsz h1 h

theorem indexRune_asc (c : ByteArray) (x : UInt8) (w : World) (h : x.toNat < 128) :
    Calls Try.prog 44 #[.string c, .int .i32 (x.toNat : Nat)] w fun e w' => e = .returned (.int .i64 (Lib.indexByte c.data.toList x)) ∧ Below w.heap.size w w' := by
  refine (Try.strings_IndexRune_ascii c _ w (by omega) (by omega)).mono fun e w' ⟨he, hw⟩ => ⟨?_, hw ▸ Below.refl _ _⟩
  rw [he]
  simp

theorem decode_wide (s : ByteArray) (pos : Nat) (h : pos < s.size) (ha : 128 ≤ (s[pos]'h).toNat) : ∀ k, k < (Utf8.decode s pos).2 → pos + k < s.size ∧ 128 ≤ (s.get! (pos + k)).toNat := by
  have hn : ¬ (s[pos]'h).toNat < 128 := by omega
  have h0 : pos + 0 < s.size ∧ 128 ≤ (s.get! (pos + 0)).toNat := ⟨h, by rw [get_at s pos h]; exact ha⟩
  have hc : ∀ j, (decide (pos + j < s.size) && (s.get! (pos + j)).toNat / 64 == 2) = true → pos + j < s.size ∧ 128 ≤ (s.get! (pos + j)).toNat := fun j hj => by
    simp at hj; omega
  simp only [Utf8.decode, get_at s pos h, hn, if_false]
  have one : ∀ k, k < 1 → pos + k < s.size ∧ 128 ≤ (s.get! (pos + k)).toNat := fun k hk => by
    obtain rfl : k = 0 := by omega
    exact h0
  split
  · rename_i hh
    simp only [Bool.and_eq_true] at hh
    split
    · intro k hk
      match k, hk with
      | 0, _ => exact h0
      | 1, _ => exact hc 1 (by simpa using hh.2)
      | k + 2, hk => simp at hk; omega
    · exact one
  · split
    · rename_i hh
      simp only [Bool.and_eq_true] at hh
      split
      · intro k hk
        match k, hk with
        | 0, _ => exact h0
        | 1, _ => exact hc 1 (by simpa using hh.1.2)
        | 2, _ => exact hc 2 (by simpa using hh.2)
        | k + 3, hk => simp at hk; omega
      · exact one
    · split
      · rename_i hh
        simp only [Bool.and_eq_true] at hh
        split
        · intro k hk
          match k, hk with
          | 0, _ => exact h0
          | 1, _ => exact hc 1 (by simpa using hh.1.1.2)
          | 2, _ => exact hc 2 (by simpa using hh.1.2)
          | 3, _ => exact hc 3 (by simpa using hh.2)
          | k + 4, hk => simp at hk; omega
        · exact one
      · exact one

theorem get_list {s : ByteArray} {j : Nat} {b : UInt8} (h : s.data.toList[j]? = some b) : s.get! j = b := by
  have hj : j < s.size := by
    have := (List.getElem?_eq_some_iff.1 h).1
    simpa using this
  rw [Lib.data_getElem? s j hj] at h
  have := get_at s j hj
  simp only [Nat.add_zero] at this
  rw [this]
  exact Option.some.inj h

theorem noAny_jump {s c : ByteArray} {i k : Nat} (hc : Asc c) (h : Lib.NoAny s.data.toList c.data.toList i) (hk : ∀ j, i ≤ j → j < k → ∀ b, s.data.toList[j]? = some b → 128 ≤ b.toNat) : Lib.NoAny s.data.toList c.data.toList k := by
  intro j b hj hb
  by_cases hji : j < i
  · exact h j b hji hb
  · have h128 := hk j (by omega) hj b hb
    cases hin : c.data.toList.contains b with
    | false => rfl
    | true =>
      have := hc b (by simpa using hin)
      omega

theorem decide_wide_min (s : ByteArray) (i : Nat) (h : i < s.size) (ha : 128 ≤ (s[i]'h).toNat) : ∀ j, i ≤ j → j < min (i + (Utf8.decode s i).2) s.size → ∀ b, s.data.toList[j]? = some b → 128 ≤ b.toNat := by
  intro j h1 h2 b hb
  have := (decode_wide s i h ha (j - i) (by omega)).2
  rw [show i + (j - i) = j by omega, get_list hb] at this
  exact this

set_option maxRecDepth 100000 in
set_option maxHeartbeats 1000000 in
theorem indexAny_short (s c : ByteArray) (w : World) (h2 : 2 ≤ c.size) (h8 : s.size ≤ 8) (hc : Asc c) (hsz : c.size ≤ maxLen) :
    Calls Try.prog 42 #[.string s, .string c] w fun e w' => e = .returned (.int .i64 (Lib.indexAny s.data.toList c.data.toList)) ∧ Below w.heap.size w w' := by
  have HA : Hid (Asc c) := hc
  clear hc
  have hemp : c.toList.isEmpty = false := by
    rw [Lib.toList_data]
    cases h : c.data.toList with
    | nil => have := Lib.size_eq c; rw [h, List.length_nil] at this; omega
    | cons _ _ => rfl
  have hn1 : ((c.size : Int) == 1) = false := beq_eq_false_iff_ne.2 (by omega)
  have h8z : decide ((8 : Int) < (s.size : Int)) = false := decide_eq_false (by omega)
  go_enter Try.func42, Try.ntmps42
  go_wp2_with (go_at_call 45; refine (Try.strings_shouldUseASCIISet _ _).mono ?_; rintro e w' ⟨rfl, hw⟩; rw [hw, h8z])
  go_loopg [9, 10] s.size (fun g _ _ wx => ∃ i : Nat, s.size ≤ i + g ∧ wx.heap[w.heap.size]? = some (.stringIter s i) ∧ Below w.heap.size w wx ∧ Lib.NoAny s.data.toList c.data.toList (min i s.size))
  case atStart => exact ⟨0, by omega, World.iter_heap _ _ _, (Below.refl _ _).alloc (Nat.le_refl _) _, by rw [Nat.zero_min]; exact Lib.NoAny.zero _ _⟩
  case round =>
    obtain ⟨i, hig, hit, hbel, hno⟩ := hrel
    have HN : Hid (Lib.NoAny s.data.toList c.data.toList (min i s.size)) := hno
    have HB : Hid (Below w.heap.size w wr) := hbel
    clear hno hbel
    have HI : Hid (wr.heap[w.heap.size]? = some (.stringIter s i)) := hit
    clear hit
    by_cases hi : i < s.size
    · have hnx := fun ty => Lib.run_next_any_at (P := Try.prog) wr w.heap.size s i ty HI.out hi
      have hit2 : Hid ((wr.iterAt w.heap.size s (i + (Utf8.decode s i).2)).heap[w.heap.size]? = some (.stringIter s (i + (Utf8.decode s i).2))) := Lib.iterAt_heap wr w.heap.size s i _ HI.out
      have hbel2 : Hid (Below w.heap.size w (wr.iterAt w.heap.size s (i + (Utf8.decode s i).2))) := Lib.below_iterAt HB.out (Nat.le_refl _) s _
      generalize wr.iterAt w.heap.size s (i + (Utf8.decode s i).2) = W1 at hnx hit2 hbel2
      have hszW : w.heap.size < W1.heap.size := (Array.getElem?_eq_some_iff.1 hit2.out).1
      obtain ⟨x, hx⟩ : ∃ x : UInt8, s[i]'hi = x := ⟨_, rfl⟩
      have Hx : Hid (s.data.toList[i]? = some x) := by rw [← hx]; exact Lib.data_getElem? s i hi
      by_cases ha : x.toNat < 128
      · have hdec : Utf8.decode s i = (x.toNat, 1) := by rw [← hx]; exact decode_ascii s i hi (by rw [hx]; exact ha)
        rw [hdec] at hnx hit2
        simp only at hnx hit2
        clear hdec hx
        have hcon := Lib.contains_iff_indexByte c.data.toList x
        have HMIN : Hid (min (i + 1) s.size = i + 1 ∧ min i s.size = i) := ⟨by omega, by omega⟩
        cases hin : c.data.toList.contains x
        · rw [hin] at hcon
          have hlt : ¬ ((0 : Int) ≤ Lib.indexByte c.data.toList x) := of_decide_eq_false hcon.symm
          have Hin : Hid (c.data.toList.contains x = false) := hin
          clear hcon hin
          go_wp2_with (go_at_call 44; refine (indexRune_asc _ _ _ ha).mono ?_; rintro e w2 ⟨rfl, hb2⟩)
          go_roundg (s.size - (i + 1))
          case measure => omega
          case rel => exact ⟨i + 1, by omega, (hb2.block _ hszW).trans hit2.out, hbel2.out.trans (hb2.mono (by omega)), by rw [HMIN.out.1]; exact (HMIN.out.2 ▸ HN.out).succ Hx.out Hin.out⟩
        · rw [hin] at hcon
          have hge : (0 : Int) ≤ Lib.indexByte c.data.toList x := of_decide_eq_true hcon.symm
          have Hin : Hid (c.data.toList.contains x = true) := hin
          clear hcon hin
          go_wp2_with (go_at_call 44; refine (indexRune_asc _ _ _ ha).mono ?_; rintro e w2 ⟨rfl, hb2⟩)
          go_ret
          exact ⟨by rw [Lib.indexAny_hit (HMIN.out.2 ▸ HN.out) Hx.out Hin.out]; rfl, hbel2.out.trans (hb2.mono (by omega))⟩
      · have hwide := decide_wide_min s i hi (by rw [hx]; omega)
        have hdh := decode_high s i hi (by rw [hx]; omega)
        have hdl := decode_le s i
        obtain ⟨r, hr⟩ : ∃ r, (Utf8.decode s i).1 = r := ⟨_, rfl⟩
        obtain ⟨d, hd⟩ : ∃ d, (Utf8.decode s i).2 = d := ⟨_, rfl⟩
        rw [hr, hd] at hdh
        rw [hr] at hnx hdl
        rw [hd] at hit2
        have HW : Hid (∀ j, i ≤ j → j < min (i + d) s.size → ∀ b, s.data.toList[j]? = some b → 128 ≤ b.toNat) := by rw [← hd]; exact hwide
        clear hwide hr hd hx
        have hr128 : (128 : Int) ≤ (r : Nat) := by omega
        go_wp2_with (go_at_call 44; refine (indexRune_hi _ _ _ HA.out hsz hr128).mono ?_; rintro e w2 ⟨rfl, hb2⟩)
        go_roundg (s.size - (i + d))
        case measure => omega
        case rel => exact ⟨i + d, by omega, (hb2.block _ hszW).trans hit2.out, hbel2.out.trans (hb2.mono (by omega)), noAny_jump HA.out HN.out (fun j h1 h2 => HW.out j (by omega) h2)⟩
    · have hnx := fun ty => Lib.run_next_end_at (P := Try.prog) wr w.heap.size s i ty HI.out hi
      go_wp2
      go_ret
      exact ⟨by rw [Lib.indexAny_none (by rw [← Lib.size_eq]; have := HN.out; rwa [Nat.min_eq_right (by omega)] at this)]; rfl, HB.out⟩
end Go.Proofs.Qxb6601608a
